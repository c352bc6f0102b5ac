import JvmDerived
import JvmDerived.Pilot.@@N@@Statement
import JvmDerived.Pilot.@@N@@Code
set_option linter.unusedVariables false
set_option linter.unusedSimpArgs false
namespace Jvm.Pilot.@@N@@.W
open Jvm Jvm.ClassFile Sem Op Lib Jvm.Free Jvm.Stand Jvm.LawKit Jvm.RoadKit
/-! own kit: a body's walk in one pass, backwards from its end ('Gl': from here the body comes to its end and there P holds) -/
section Walk
variable {p : Program} {l : Launch} {e : Env} {R : Room} {s : State} {m : MethodId} {args : Array Value} {below : List Frame} {meth : Method} {c : Code} {T T' : State} {locs : List Loc} {cells slots : Nat} {P : Option Value → Heap → List Loc → Prop} {C N : Nat} {Ls : Array Slot} {S : List Value} {pc pc' pc'' : Nat} {g : JFrame}
def Gl (p : Program) (e : Env) (below : List Frame) (s : State) (P : Option Value → Heap → List Loc → Prop) (C N : Nat) (T : State) (g : JFrame) : Prop :=
  ∃ (s₂ : State) (o : Outcome), Steps p.tables e below (T.setTop g) s₂ ∧ s₂.status = .running ∧ Ended s₂ below o ∧ ∃ v L, o = .returned v ∧ P v s₂.heap L ∧ FrameEnd s o s₂ L C N
theorem s1 (g' : JFrame) (h : ∀ t, Steps p.tables e below (T.setTop g') t → Steps p.tables e below (T.setTop g) t) (K : Gl p e below s P C N T g') : Gl p e below s P C N T g := by
  obtain ⟨s₂, o, h1, h2⟩ := K; exact ⟨s₂, o, h _ h1, h2⟩
theorem s2 (g' : JFrame) (h : ∀ t, Steps p.tables e below (T'.setTop g') t → Steps p.tables e below (T.setTop g) t) (K : Gl p e below s P C N T' g') : Gl p e below s P C N T g := by
  obtain ⟨s₂, o, h1, h2⟩ := K; exact ⟨s₂, o, h _ h1, h2⟩
theorem s3 (g' : JFrame) (h : Steps p.tables e below (T.setTop g) (T'.setTop g')) (K : Gl p e below s P C N T' g') : Gl p e below s P C N T g := by
  obtain ⟨s₂, o, h1, h2⟩ := K; exact ⟨s₂, o, h.trans h1, h2⟩
theorem cast {g' : JFrame} (q : g = g') (K : Gl p e below s P C N T g') : Gl p e below s P C N T g := q ▸ K
theorem fin (X : Stand p l e R s m args below meth c T locs cells slots) {v : Option Value} (hv : meth.sig.returnType = none → v = none) (hlk : meth.locks = false)
    (hs : ∀ fs, (∀ (f : JFrame) (acts : List Action), f.method = m → f.locked = none → f.entered = [] → (doReturn e (T.setTop f) acts v).1 = T.setFrames fs) → Steps p.tables e below (T.setTop g) (T.setFrames fs))
    (hP : P v T.heap locs) (hC : cells ≤ C) (hN : slots ≤ N) : Gl p e below s P C N T g := by
  obtain ⟨fs, hr, hrun, hended, hW, hsame⟩ := X.leave hv hlk
  exact ⟨_, _, hs fs hr, hrun, hended, _, _, rfl, hP, ⟨_, rfl⟩, hW, hsame.mono hC hN⟩
theorem retZ (X : Stand p l e R s m args below meth c T locs cells slots) (hx : p.tables.exec = Jvm.exec) (hlk : meth.locks = false) {z z' : Int32} {t : FieldType} (hret : meth.sig.returnType = some t) (ht : t = .boolean ∨ t = .byte ∨ t = .char ∨ t = .short)
    (hd : decode c.code pc = .ok (.ireturn, 1)) (hz : nar t z = z') (hP : P (some (.int z')) T.heap locs) (hC : cells ≤ C) (hN : slots ≤ N) : Gl p e below s P C N T (mkF m pc Ls (.int z :: S)) :=
  fin X (v := some (.int z')) (fun h => by rw [hret] at h; cases h) hlk (fun fs hr => by subst hz; exact RoadKit.retN X hx hret ht hd hr) hP hC hN
theorem retI (X : Stand p l e R s m args below meth c T locs cells slots) (hx : p.tables.exec = Jvm.exec) (hlk : meth.locks = false) {z : Int32} (hret : meth.sig.returnType = some .int)
    (hd : decode c.code pc = .ok (.ireturn, 1)) (hP : P (some (.int z)) T.heap locs) (hC : cells ≤ C) (hN : slots ≤ N) : Gl p e below s P C N T (mkF m pc Ls (.int z :: S)) :=
  fin X (v := some (.int z)) (fun h => by rw [hret] at h; cases h) hlk (fun fs hr => retOut X hx hret rfl (Or.inl ⟨rfl, Or.inl rfl, _, rfl⟩) hd hr) hP hC hN
theorem retL (X : Stand p l e R s m args below meth c T locs cells slots) (hx : p.tables.exec = Jvm.exec) (hlk : meth.locks = false) {z : Int64} (hret : meth.sig.returnType = some .long)
    (hd : decode c.code pc = .ok (.lreturn, 1)) (hP : P (some (.long z)) T.heap locs) (hC : cells ≤ C) (hN : slots ≤ N) : Gl p e below s P C N T (mkF m pc Ls (.long z :: S)) :=
  fin X (v := some (.long z)) (fun h => by rw [hret] at h; cases h) hlk (fun fs hr => retOut X hx hret rfl (Or.inr (Or.inl ⟨rfl, rfl, _, rfl⟩)) hd hr) hP hC hN
theorem retA (X : Stand p l e R s m args below meth c T locs cells slots) (hx : p.tables.exec = Jvm.exec) (hlk : meth.locks = false) {w : Value} {t : FieldType} (hret : meth.sig.returnType = some t) (ht : t.isReference = true) (hw : w.isRef = true) (hn : narrow t w = w)
    (hd : decode c.code pc = .ok (.areturn, 1)) (hP : P (some w) T.heap locs) (hC : cells ≤ C) (hN : slots ≤ N) : Gl p e below s P C N T (mkF m pc Ls (w :: S)) :=
  fin X (v := some w) (fun h => by rw [hret] at h; cases h) hlk (fun fs hr => retOut X hx hret hn (Or.inr (Or.inr (Or.inr (Or.inr ⟨rfl, ht, hw⟩)))) hd hr) hP hC hN
theorem ret0 (X : Stand p l e R s m args below meth c T locs cells slots) (hx : p.tables.exec = Jvm.exec) (hlk : meth.locks = false) (hret : meth.sig.returnType = none)
    (hd : decode c.code pc = .ok (.return_, 1)) (hP : P none T.heap locs) (hC : cells ≤ C) (hN : slots ≤ N) : Gl p e below s P C N T (mkF m pc Ls []) :=
  fin X (v := none) (fun _ => rfl) hlk (fun fs hr => X.returnOut hx hret hd hr) hP hC hN
/-! the branches -/
def cY : ClassFile.Cond → Int32 → Int32 → Prop
  | .eq, x, y => x = y
  | .ne, x, y => ¬ x = y
  | .lt, x, y => x < y
  | .ge, x, y => ¬ x < y
  | .gt, x, y => y < x
  | .le, x, y => ¬ y < x
def cN : ClassFile.Cond → Int32 → Int32 → Prop
  | .eq, x, y => ¬ x = y
  | .ne, x, y => x = y
  | .lt, x, y => ¬ x < y
  | .ge, x, y => x < y
  | .gt, x, y => ¬ y < x
  | .le, x, y => y < x
theorem cOr (cd : ClassFile.Cond) (x y : Int32) : (cY cd x y ∧ if_icmp.holds cd x y = true) ∨ (cN cd x y ∧ if_icmp.holds cd x y = false) := by
  cases cd with
  | eq => by_cases h : x = y; exact Or.inl ⟨h, (teq h).1⟩; exact Or.inr ⟨h, (feq h).1⟩
  | ne => by_cases h : x = y; exact Or.inr ⟨h, (teq h).2⟩; exact Or.inl ⟨h, (feq h).2⟩
  | lt => by_cases h : x < y; exact Or.inl ⟨h, (tlt h).1⟩; exact Or.inr ⟨h, (flt h).1⟩
  | ge => by_cases h : x < y; exact Or.inr ⟨h, (tlt h).2.1⟩; exact Or.inl ⟨h, (flt h).2.1⟩
  | gt => by_cases h : y < x; exact Or.inl ⟨h, (tlt h).2.2.1⟩; exact Or.inr ⟨h, (flt h).2.2.1⟩
  | le => by_cases h : y < x; exact Or.inr ⟨h, (tlt h).2.2.2⟩; exact Or.inl ⟨h, (flt h).2.2.2⟩
def lY : ClassFile.Cond → Int64 → Int64 → Prop
  | .eq, x, y => x = y
  | .ne, x, y => ¬ x = y
  | .lt, x, y => x < y
  | .ge, x, y => ¬ x < y
  | .gt, x, y => y < x
  | .le, x, y => ¬ y < x
def lN : ClassFile.Cond → Int64 → Int64 → Prop
  | .eq, x, y => ¬ x = y
  | .ne, x, y => x = y
  | .lt, x, y => ¬ x < y
  | .ge, x, y => x < y
  | .gt, x, y => ¬ y < x
  | .le, x, y => y < x
theorem lYc {cd : ClassFile.Cond} {x y : Int64} (h : cY cd (lcmpW x y) 0) : lY cd x y := by
  rw [lcW] at h
  cases cd with
  | eq => exact (lc_eq x y).mp h
  | ne => exact fun q => h ((lc_eq x y).mpr q)
  | lt => exact (lc_lt x y).mp h
  | ge => exact fun q => h ((lc_lt x y).mpr q)
  | gt => exact (lc_gt x y).mp h
  | le => exact fun q => h ((lc_gt x y).mpr q)
theorem lNc {cd : ClassFile.Cond} {x y : Int64} (h : cN cd (lcmpW x y) 0) : lN cd x y := by
  rw [lcW] at h
  cases cd with
  | eq => exact fun q => h ((lc_eq x y).mpr q)
  | ne => exact (lc_eq x y).mp h
  | lt => exact fun q => h ((lc_lt x y).mpr q)
  | ge => exact (lc_lt x y).mp h
  | gt => exact fun q => h ((lc_gt x y).mpr q)
  | le => exact (lc_gt x y).mp h
theorem icmp (X : Stand p l e R s m args below meth c T locs cells slots) (hx : p.tables.exec = Jvm.exec) {cd : ClassFile.Cond} {x y : Int32} {o : Int} (hd : decode c.code pc = .ok (.if_icmp cd o, 3)) (ho : 0 ≤ (pc : Int) + o) (hp : ((pc : Int) + o).toNat = pc') (hq : pc + 3 = pc'')
    (ky : cY cd x y → Gl p e below s P C N T (mkF m pc' Ls S)) (kn : cN cd x y → Gl p e below s P C N T (mkF m pc'' Ls S)) : Gl p e below s P C N T (mkF m pc Ls (.int y :: .int x :: S)) := by
  subst hq
  rcases cOr cd x y with ⟨h1, h2⟩ | ⟨h1, h2⟩
  · exact s1 _ (fun t k => XS.icmpYes X.here hx rfl (pc0 := pc) (pc' := pc') rfl hd rfl h2 ho hp k) (ky h1)
  · exact s1 _ (fun t k => XS.icmpNo X.here hx rfl hd rfl h2 k) (kn h1)
theorem ifc (X : Stand p l e R s m args below meth c T locs cells slots) (hx : p.tables.exec = Jvm.exec) {cd : ClassFile.Cond} {x : Int32} {o : Int} (hd : decode c.code pc = .ok (.ifCond cd o, 3)) (ho : 0 ≤ (pc : Int) + o) (hp : ((pc : Int) + o).toNat = pc') (hq : pc + 3 = pc'')
    (ky : cY cd x 0 → Gl p e below s P C N T (mkF m pc' Ls S)) (kn : cN cd x 0 → Gl p e below s P C N T (mkF m pc'' Ls S)) : Gl p e below s P C N T (mkF m pc Ls (.int x :: S)) := by
  subst hq
  rcases cOr cd x 0 with ⟨h1, h2⟩ | ⟨h1, h2⟩
  · exact s1 _ (fun t k => XS.ifYes X.here hx rfl (pc0 := pc) (pc' := pc') rfl hd rfl ((if0 _ _).trans h2) ho hp k) (ky h1)
  · exact s1 _ (fun t k => XS.ifNo X.here hx rfl hd rfl ((if0 _ _).trans h2) k) (kn h1)
theorem lif (X : Stand p l e R s m args below meth c T locs cells slots) (hx : p.tables.exec = Jvm.exec) {cd : ClassFile.Cond} {x y : Int64} {o : Int} (hd1 : decode c.code pc = .ok (.lcmp, 1)) {pc1 : Nat} (h1 : pc + 1 = pc1) (hd : decode c.code pc1 = .ok (.ifCond cd o, 3)) (ho : 0 ≤ (pc1 : Int) + o) (hp : ((pc1 : Int) + o).toNat = pc') (hq : pc1 + 3 = pc'')
    (ky : lY cd x y → Gl p e below s P C N T (mkF m pc' Ls S)) (kn : lN cd x y → Gl p e below s P C N T (mkF m pc'' Ls S)) : Gl p e below s P C N T (mkF m pc Ls (.long y :: .long x :: S)) := by
  subst h1
  exact s1 (mkF m (pc + 1) Ls (.int (lcmpW x y) :: S)) (fun t k => XS.lcmp X.here hx rfl hd1 rfl k) (ifc X hx hd ho hp hq (fun h => ky (lYc h)) (fun h => kn (lNc h)))
end Walk
/-! arrays of ints and of longs, by what each place holds -/
section Arrays
variable {Z : State} {h h' : Heap} {a b : Addr} {ty : FieldType} {n : Nat} {f : Nat → Int32} {q : Nat → Int64}
def up {α : Type} (f : Nat → α) (j : Nat) (v : α) : Nat → α := fun k => if k = j then v else f k
theorem up_same {α : Type} (f : Nat → α) (j : Nat) (v : α) : up f j v j = v := if_pos rfl
theorem up_other {α : Type} (f : Nat → α) {j k : Nat} (v : α) (h : ¬ k = j) : up f j v k = f k := if_neg h
def AI (Z : State) (h : Heap) (a : Addr) (ty : FieldType) (n : Nat) (f : Nat → Int32) : Prop := ∃ c : Cell, Arr Z h a c ty ∧ c.slots.size = n ∧ ∀ k, k < n → c.slots[k]? = some (.int (f k))
def AJ (Z : State) (h : Heap) (a : Addr) (n : Nat) (f : Nat → Int64) : Prop := ∃ c : Cell, Arr Z h a c .long ∧ c.slots.size = n ∧ ∀ k, k < n → c.slots[k]? = some (.long (f k))
theorem AI.lt (F : AI Z h a ty n f) : a < h.size := by obtain ⟨c, A, -⟩ := F; exact A.lt
theorem AJ.lt (F : AJ Z h a n q) : a < h.size := by obtain ⟨c, A, -⟩ := F; exact A.lt
theorem AI.ext (F : AI Z h a ty n f) (E : Ext h h') : AI Z h' a ty n f := by obtain ⟨c, A, r⟩ := F; exact ⟨c, A.ext E, r⟩
theorem AJ.ext (F : AJ Z h a n q) (E : Ext h h') : AJ Z h' a n q := by obtain ⟨c, A, r⟩ := F; exact ⟨c, A.ext E, r⟩
theorem AI.other {sl : Nat} {v : Value} (F : AI Z h b ty n f) (W : Wr h h' a sl v) (e : b ≠ a) : AI Z h' b ty n f := by obtain ⟨c, A, r⟩ := F; exact ⟨c, A.other W e, r⟩
theorem AJ.other {sl : Nat} {v : Value} (F : AJ Z h b n q) (W : Wr h h' a sl v) (e : b ≠ a) : AJ Z h' b n q := by obtain ⟨c, A, r⟩ := F; exact ⟨c, A.other W e, r⟩
theorem AI.keep {ws : List Addr} (F : AI Z h a ty n f) (K : Keep h h' ws) (e : a ∉ ws) : AI Z h' a ty n f := by obtain ⟨c, A, r⟩ := F; exact ⟨c, ⟨K.2.1 a c A.1 e, A.2⟩, r⟩
theorem AJ.keep {ws : List Addr} (F : AJ Z h a n q) (K : Keep h h' ws) (e : a ∉ ws) : AJ Z h' a n q := by obtain ⟨c, A, r⟩ := F; exact ⟨c, ⟨K.2.1 a c A.1 e, A.2⟩, r⟩
theorem slots_set {c : Cell} {j k : Nat} {v : Value} (hj : j < c.slots.size) : (c.setSlot j v).slots[k]? = if k = j then some v else c.slots[k]? := by
  by_cases e : k = j
  · subst e; simp [Cell.setSlot, hj]
  · simp only [Cell.setSlot, if_neg e]; exact Array.getElem?_setIfInBounds_ne (Ne.symm e)
theorem AI.set {j : Nat} {v : Int32} (F : AI Z h a ty n f) (W : Wr h h' a j (.int v)) (hj : j < n) : AI Z h' a ty n (up f j v) := by
  obtain ⟨c, A, r1, r2⟩ := F
  refine ⟨_, A.same W, by rw [sz_set]; exact r1, fun k hk => ?_⟩
  rw [slots_set (by omega)]
  by_cases e : k = j
  · rw [if_pos e, e, up_same]
  · rw [if_neg e, up_other _ _ e]; exact r2 k hk
theorem AJ.set {j : Nat} {v : Int64} (F : AJ Z h a n q) (W : Wr h h' a j (.long v)) (hj : j < n) : AJ Z h' a n (up q j v) := by
  obtain ⟨c, A, r1, r2⟩ := F
  refine ⟨_, A.same W, by rw [sz_set]; exact r1, fun k hk => ?_⟩
  rw [slots_set (by omega)]
  by_cases e : k = j
  · rw [if_pos e, e, up_same]
  · rw [if_neg e, up_other _ _ e]; exact r2 k hk
theorem clamp {z : Int32} (hz : z.toInt = n) : z.toNatClampNeg = n := by simp only [Int32.toNatClampNeg]; omega
theorem AI.new {k : ClassId} {z : Int32} (A : Arr Z h a (newA k ty z) ty) (hz : z.toInt = n) (hd : defaultValue ty = .int 0) : AI Z h a ty n (fun _ => 0) :=
  ⟨_, A, by rw [sz_new]; exact clamp hz, fun i hi => by rw [← clamp hz] at hi; simp [newA, hi, hd]⟩
theorem AJ.new {k : ClassId} {z : Int32} (A : Arr Z h a (newA k .long z) .long) (hz : z.toInt = n) : AJ Z h a n (fun _ => 0) :=
  ⟨_, A, by rw [sz_new]; exact clamp hz, fun i hi => by rw [← clamp hz] at hi; simp [newA, hi, defaultValue]⟩
theorem AI.congr {f' : Nat → Int32} (F : AI Z h a ty n f) (e : ∀ k, k < n → f' k = f k) : AI Z h a ty n f' := by obtain ⟨c, A, r1, r2⟩ := F; exact ⟨c, A, r1, fun k hk => by rw [e k hk]; exact r2 k hk⟩
theorem AJ.congr {f' : Nat → Int64} (F : AJ Z h a n q) (e : ∀ k, k < n → f' k = q k) : AJ Z h a n f' := by obtain ⟨c, A, r1, r2⟩ := F; exact ⟨c, A, r1, fun k hk => by rw [e k hk]; exact r2 k hk⟩
theorem inb {j : Int32} {k sz : Nat} (hj : j.toInt = k) (hk : k < sz) : ¬ (j < 0 ∨ sz ≤ j.toNatClampNeg) := by
  rw [clamp hj, Int32.lt_iff_toInt_lt, hj, show (0 : Int32).toInt = 0 from rfl]; omega
theorem szI {z : Int32} (hz : z.toInt = n) : Nat.toInt32 n = z := by
  rw [← Int32.toInt_inj, len_toInt (by have := z.toInt_lt; omega), hz]
end Arrays
section Steps
variable {p : Program} {l : Launch} {e : Env} {R : Room} {s : State} {m : MethodId} {args : Array Value} {below : List Frame} {meth : Method} {c : Code} {T T' : State} {locs : List Loc} {cells slots : Nat} {P : Option Value → Heap → List Loc → Prop} {C N : Nat} {Ls : Array Slot} {S : List Value} {pc pc' : Nat} {Z : State} {h : Heap} {a : Addr} {n n0 : Nat} {f : Nat → Int32} {q : Nat → Int64} {a0 : Array Value} {ty : FieldType}
theorem getf (X : Stand p l e R s m args below meth c T locs cells slots) (hx : p.tables.exec = Jvm.exec) (hZ : Z.Warmed39 s.vm) {own R0 O n d host : String} {index : Nat} (hown : s.vm.findClass own = some m.cls) (w : (Cond.fieldLink own index R0 n d).before a0 Z = true ∨ (Cond.fieldLinkNest own index R0 n d host).before a0 Z = true) (via : Via Z R0 O n d)
    (eT : T.heap = h) {v : Value} (F : Fld Z h a O n d v) (hd : decode c.code pc = .ok (.getfield index, 3)) (hq : pc + 3 = pc') (K : ∀ T', Stand p l e R s m args below meth c T' locs cells slots → T'.heap = h → Gl p e below s P C N T' (mkF m pc' Ls (v :: S))) : Gl p e below s P C N T (mkF m pc Ls (.ref a :: S)) := by
  subst hq
  obtain ⟨T', X', e', st⟩ := getF X hx hZ hown w via eT F (g := mkF m pc Ls (.ref a :: S)) rfl rfl hd
  exact s2 _ st (K T' X' e')
theorem gets (X : Stand p l e R s m args below meth c T locs cells slots) (hx : p.tables.exec = Jvm.exec) (hZ : Z.Warmed39 s.vm) {own R0 O n d host : String} {index : Nat} (hown : s.vm.findClass own = some m.cls) (w : (Cond.fieldLink own index R0 n d).before a0 Z = true ∨ (Cond.fieldLinkNest own index R0 n d host).before a0 Z = true) (via : Via Z R0 O n d)
    (eT : T.heap = h) {v : Value} (F : Sta Z h O n d v) (hd : decode c.code pc = .ok (.getstatic index, 3)) (hq : pc + 3 = pc') (K : ∀ T', Stand p l e R s m args below meth c T' locs cells slots → T'.heap = h → Gl p e below s P C N T' (mkF m pc' Ls (v :: S))) : Gl p e below s P C N T (mkF m pc Ls S) := by
  subst hq
  obtain ⟨T', X', e', st⟩ := getS2 X hx hZ hown w via eT F (g := mkF m pc Ls S) rfl hd
  exact s2 _ st (K T' X' e')
theorem putf (X : Stand p l e R s m args below meth c T locs cells slots) (hx : p.tables.exec = Jvm.exec) (hZ : Z.Warmed39 s.vm) {own R0 O n d host Cl : String} {index kk : Nat} (hown : s.vm.findClass own = some m.cls) (w : (Cond.fieldLink own index R0 n d).before a0 Z = true ∨ (Cond.fieldLinkNest own index R0 n d host).before a0 Z = true) (via : Via Z R0 O n d)
    (eT : T.heap = h) {v old : Value} (F : Fld Z h a O n d old) (E : Exa Z h a Cl) (L : (Cond.lays Cl O n d).before a0 Z = true ∨ ((Cond.laysFinal Cl O n d).before a0 Z = true ∧ own = O ∧ meth.name = "<init>")) (wi : (Cond.instantiable Cl kk).before a0 Z = true)
    (hty : parseFieldDescriptor d = some ty) (hn : narrow ty v = v) (hf : fits ty v = true) (N0 : Fr n0 locs) (ga : n0 ≤ a) (hd : decode c.code pc = .ok (.putfield index, 3)) (hq : pc + 3 = pc')
    (K : ∀ T' h' L', Stand p l e R s m args below meth c T' L' cells slots → T'.heap = h' → Wr h h' a (RoadKit.slotOf Z O n d) v → Fld Z h' a O n d v → Fr n0 L' → Gl p e below s P C N T' (mkF m pc' Ls S)) : Gl p e below s P C N T (mkF m pc Ls (v :: .ref a :: S)) := by
  subst hq
  obtain ⟨T', h', X', e', W, st⟩ := putF X hx hZ hown w via eT F E L wi hty hn hf (g := mkF m pc Ls (v :: .ref a :: S)) rfl rfl hd
  exact s2 _ st (K T' h' _ X' e' W (F.same W) (Fr.snoc X' N0 ga))
theorem newo (X : Stand p l e R s m args below meth c T locs cells slots) (hx : p.tables.exec = Jvm.exec) (hZ : Z.Warmed39 s.vm) {own Cl : String} {index n : Nat} (hown : s.vm.findClass own = some m.cls) (w : (Cond.classLink own index Cl).before a0 Z = true) (wi : (Cond.instantiable Cl n).before a0 Z = true) (wz : (Cond.initialized Cl).before a0 Z = true) (eT : T.heap = h)
    (hd : decode c.code pc = .ok (.new index, 3)) (hc : cells + 1 ≤ R.cells) (hl : slots + n ≤ R.slots) (hq : pc + 3 = pc')
    (K : ∀ T' h' a, Stand p l e R s m args below meth c T' locs (cells + 1) (slots + n) → T'.heap = h' → Ext h h' → a = h.size → Exa Z h' a Cl → (∀ {O nm d : String} {ty : FieldType}, Laid Z a0 Cl O nm d → parseFieldDescriptor d = some ty → Fld Z h' a O nm d (defaultValue ty)) → Gl p e below s P C N T' (mkF m pc' Ls (.ref a :: S))) : Gl p e below s P C N T (mkF m pc Ls S) := by
  subst hq
  obtain ⟨T', h', X', e', E, A, D, -, st⟩ := newO X hx hZ hown w wi wz eT (g := mkF m pc Ls S) rfl hd hc hl
  exact s2 _ st (K T' h' _ X' e' E rfl A D)
theorem newi (X : Stand p l e R s m args below meth c T locs cells slots) (hx : p.tables.exec = Jvm.exec) (hZ : Z.Warmed39 s.vm) {aty : ArrayType} (w : (Cond.arrayClass ty).before a0 Z = true) (hty : newarray.typeOf aty = ty) (hdv : defaultValue ty = .int 0) (eT : T.heap = h) {z : Int32} (hd : decode c.code pc = .ok (.newarray aty, 2)) (hz : z.toInt = n) {cap : Nat} (hcap : n ≤ cap) (hb : cap * 8 ≤ 536870912) (hc : cells + 1 ≤ R.cells) (hl : slots + cap ≤ R.slots) (hq : pc + 2 = pc')
    (K : ∀ T' h' a, Stand p l e R s m args below meth c T' locs (cells + 1) (slots + cap) → T'.heap = h' → Ext h h' → a = h.size → AI Z h' a ty n (fun _ => 0) → Gl p e below s P C N T' (mkF m pc' Ls (.ref a :: S))) : Gl p e below s P C N T (mkF m pc Ls (.int z :: S)) := by
  subst hq hty
  obtain ⟨T', h', k, X', e', E, A, st⟩ := newP X hx hZ w eT (g := mkF m pc Ls (.int z :: S)) rfl hd rfl (by rw [Int32.lt_iff_toInt_lt, hz, show (0 : Int32).toInt = 0 from rfl]; omega) (cap := cap) (by rw [clamp hz]; exact hcap) hb hc hl
  exact s2 _ st (K T' h' _ X' e' E rfl (AI.new A hz hdv))
theorem newj (X : Stand p l e R s m args below meth c T locs cells slots) (hx : p.tables.exec = Jvm.exec) (hZ : Z.Warmed39 s.vm) (w : (Cond.arrayClass .long).before a0 Z = true) (eT : T.heap = h) {z : Int32} (hd : decode c.code pc = .ok (.newarray .long, 2)) (hz : z.toInt = n) {cap : Nat} (hcap : n ≤ cap) (hb : cap * 8 ≤ 536870912) (hc : cells + 1 ≤ R.cells) (hl : slots + cap ≤ R.slots) (hq : pc + 2 = pc')
    (K : ∀ T' h' a, Stand p l e R s m args below meth c T' locs (cells + 1) (slots + cap) → T'.heap = h' → Ext h h' → a = h.size → AJ Z h' a n (fun _ => 0) → Gl p e below s P C N T' (mkF m pc' Ls (.ref a :: S))) : Gl p e below s P C N T (mkF m pc Ls (.int z :: S)) := by
  subst hq
  obtain ⟨T', h', k, X', e', E, A, st⟩ := newP X hx hZ (aty := .long) w eT (g := mkF m pc Ls (.int z :: S)) rfl hd rfl (by rw [Int32.lt_iff_toInt_lt, hz, show (0 : Int32).toInt = 0 from rfl]; omega) (cap := cap) (by rw [clamp hz]; exact hcap) hb hc hl
  exact s2 _ st (K T' h' _ X' e' E rfl (AJ.new A hz))
theorem ldi (X : Stand p l e R s m args below meth c T locs cells slots) (hx : p.tables.exec = Jvm.exec) (hZ : Z.Warmed39 s.vm) (eT : T.heap = h) (F : AI Z h a .int n f) {j : Int32} (k : Nat) (hj : j.toInt = k) (hk : k < n) (hd : decode c.code pc = .ok (.iaload, 1)) (hq : pc + 1 = pc')
    (K : Gl p e below s P C N T (mkF m pc' Ls (.int (f k) :: S))) : Gl p e below s P C N T (mkF m pc Ls (.int j :: .ref a :: S)) := by
  subst hq
  obtain ⟨cl, A, r1, r2⟩ := F
  exact s1 _ (fun t q => X.iaload hx (v := .int (f k)) (by rw [eT]; exact A.1) (State.isArrayOf_alike hZ.alike A.2.1) A.2.2 (inb hj (by omega)) (by rw [clamp hj]; exact r2 k hk) (g := mkF m pc Ls (.int j :: .ref a :: S)) rfl rfl hd t q) K
theorem ldz (X : Stand p l e R s m args below meth c T locs cells slots) (hx : p.tables.exec = Jvm.exec) (hZ : Z.Warmed39 s.vm) (eT : T.heap = h) (F : AI Z h a .boolean n f) {j : Int32} (k : Nat) (hj : j.toInt = k) (hk : k < n) (hd : decode c.code pc = .ok (.baload, 1)) (hq : pc + 1 = pc')
    (K : Gl p e below s P C N T (mkF m pc' Ls (.int (f k) :: S))) : Gl p e below s P C N T (mkF m pc Ls (.int j :: .ref a :: S)) := by
  subst hq
  obtain ⟨cl, A, r1, r2⟩ := F
  exact s1 _ (fun t q => X.baloadBooleans hx (v := .int (f k)) (by rw [eT]; exact A.1) (State.isArrayOf_alike hZ.alike A.2.1) A.2.2 (inb hj (by omega)) (by rw [clamp hj]; exact r2 k hk) (g := mkF m pc Ls (.int j :: .ref a :: S)) rfl rfl hd t q) K
theorem ldb (X : Stand p l e R s m args below meth c T locs cells slots) (hx : p.tables.exec = Jvm.exec) (hZ : Z.Warmed39 s.vm) (eT : T.heap = h) (F : AI Z h a .byte n f) {j : Int32} (k : Nat) (hj : j.toInt = k) (hk : k < n) (hd : decode c.code pc = .ok (.baload, 1)) (hq : pc + 1 = pc')
    (K : Gl p e below s P C N T (mkF m pc' Ls (.int (f k) :: S))) : Gl p e below s P C N T (mkF m pc Ls (.int j :: .ref a :: S)) := by
  subst hq
  obtain ⟨cl, A, r1, r2⟩ := F
  exact s1 _ (fun t q => X.baloadBytes hx (v := .int (f k)) (by rw [eT]; exact A.1) (State.isArrayOf_alike hZ.alike A.2.1) A.2.2 (inb hj (by omega)) (by rw [clamp hj]; exact r2 k hk) (g := mkF m pc Ls (.int j :: .ref a :: S)) rfl rfl hd t q) K
theorem ldj (X : Stand p l e R s m args below meth c T locs cells slots) (hx : p.tables.exec = Jvm.exec) (hZ : Z.Warmed39 s.vm) (eT : T.heap = h) (F : AJ Z h a n q) {j : Int32} (k : Nat) (hj : j.toInt = k) (hk : k < n) (hd : decode c.code pc = .ok (.laload, 1)) (hq : pc + 1 = pc')
    (K : Gl p e below s P C N T (mkF m pc' Ls (.long (q k) :: S))) : Gl p e below s P C N T (mkF m pc Ls (.int j :: .ref a :: S)) := by
  subst hq
  obtain ⟨cl, A, r1, r2⟩ := F
  exact s1 _ (fun t u => X.laload hx (v := .long (q k)) (by rw [eT]; exact A.1) (State.isArrayOf_alike hZ.alike A.2.1) A.2.2 (inb hj (by omega)) (by rw [clamp hj]; exact r2 k hk) (g := mkF m pc Ls (.int j :: .ref a :: S)) rfl rfl hd t u) K
theorem alen (X : Stand p l e R s m args below meth c T locs cells slots) (hx : p.tables.exec = Jvm.exec) (hZ : Z.Warmed39 s.vm) (eT : T.heap = h) (F : AI Z h a ty n f) {z : Int32} (hz : z.toInt = n) (hd : decode c.code pc = .ok (.arraylength, 1)) (hq : pc + 1 = pc')
    (K : Gl p e below s P C N T (mkF m pc' Ls (.int z :: S))) : Gl p e below s P C N T (mkF m pc Ls (.ref a :: S)) := by
  subst hq
  obtain ⟨cl, A, r1, r2⟩ := F
  exact s1 _ (fun t u => X.arraylength hx (by rw [eT]; exact A.1) (State.isArrayOf_alike hZ.alike A.2.1) (g := mkF m pc Ls (.ref a :: S)) rfl rfl hd t (by rw [r1, szI hz]; exact u)) K
theorem alenJ (X : Stand p l e R s m args below meth c T locs cells slots) (hx : p.tables.exec = Jvm.exec) (hZ : Z.Warmed39 s.vm) (eT : T.heap = h) (F : AJ Z h a n q) {z : Int32} (hz : z.toInt = n) (hd : decode c.code pc = .ok (.arraylength, 1)) (hq : pc + 1 = pc')
    (K : Gl p e below s P C N T (mkF m pc' Ls (.int z :: S))) : Gl p e below s P C N T (mkF m pc Ls (.ref a :: S)) := by
  subst hq
  obtain ⟨cl, A, r1, r2⟩ := F
  exact s1 _ (fun t u => X.arraylength hx (by rw [eT]; exact A.1) (State.isArrayOf_alike hZ.alike A.2.1) (g := mkF m pc Ls (.ref a :: S)) rfl rfl hd t (by rw [r1, szI hz]; exact u)) K
theorem sti (X : Stand p l e R s m args below meth c T locs cells slots) (hx : p.tables.exec = Jvm.exec) (hZ : Z.Warmed39 s.vm) (eT : T.heap = h) (F : AI Z h a .int n f) {j x : Int32} (k : Nat) (hj : j.toInt = k) (hk : k < n) (N0 : Fr n0 locs) (ga : n0 ≤ a) (hd : decode c.code pc = .ok (.iastore, 1)) (hq : pc + 1 = pc')
    (K : ∀ T' h' L', Stand p l e R s m args below meth c T' L' cells slots → T'.heap = h' → Wr h h' a k (.int x) → AI Z h' a .int n (up f k x) → Fr n0 L' → Gl p e below s P C N T' (mkF m pc' Ls S)) : Gl p e below s P C N T (mkF m pc Ls (.int x :: .int j :: .ref a :: S)) := by
  subst hq
  obtain ⟨cl, A, r1, r2⟩ := F
  obtain ⟨T', h', X', e', W, st⟩ := stI X hx hZ eT A (inb hj (by omega)) (g := mkF m pc Ls (.int x :: .int j :: .ref a :: S)) rfl rfl hd
  have N1 := Fr.snoc X' N0 ga
  rw [clamp hj] at W
  exact s2 _ st (K T' h' _ X' e' W (AI.set ⟨cl, A, r1, r2⟩ W hk) N1)
theorem stz (X : Stand p l e R s m args below meth c T locs cells slots) (hx : p.tables.exec = Jvm.exec) (hZ : Z.Warmed39 s.vm) (eT : T.heap = h) (F : AI Z h a .boolean n f) {j x x' : Int32} (hn : nar .boolean x = x') (k : Nat) (hj : j.toInt = k) (hk : k < n) (N0 : Fr n0 locs) (ga : n0 ≤ a) (hd : decode c.code pc = .ok (.bastore, 1)) (hq : pc + 1 = pc')
    (K : ∀ T' h' L', Stand p l e R s m args below meth c T' L' cells slots → T'.heap = h' → Wr h h' a k (.int x') → AI Z h' a .boolean n (up f k x') → Fr n0 L' → Gl p e below s P C N T' (mkF m pc' Ls S)) : Gl p e below s P C N T (mkF m pc Ls (.int x :: .int j :: .ref a :: S)) := by
  subst hq hn
  obtain ⟨cl, A, r1, r2⟩ := F
  obtain ⟨T', h', X', e', W, st⟩ := stZ X hx hZ eT A (inb hj (by omega)) (g := mkF m pc Ls (.int x :: .int j :: .ref a :: S)) rfl rfl hd
  have N1 := Fr.snoc X' N0 ga
  rw [clamp hj] at W
  exact s2 _ st (K T' h' _ X' e' W (AI.set ⟨cl, A, r1, r2⟩ W hk) N1)
theorem stb (X : Stand p l e R s m args below meth c T locs cells slots) (hx : p.tables.exec = Jvm.exec) (hZ : Z.Warmed39 s.vm) (eT : T.heap = h) (F : AI Z h a .byte n f) {j x x' : Int32} (hn : nar .byte x = x') (k : Nat) (hj : j.toInt = k) (hk : k < n) (N0 : Fr n0 locs) (ga : n0 ≤ a) (hd : decode c.code pc = .ok (.bastore, 1)) (hq : pc + 1 = pc')
    (K : ∀ T' h' L', Stand p l e R s m args below meth c T' L' cells slots → T'.heap = h' → Wr h h' a k (.int x') → AI Z h' a .byte n (up f k x') → Fr n0 L' → Gl p e below s P C N T' (mkF m pc' Ls S)) : Gl p e below s P C N T (mkF m pc Ls (.int x :: .int j :: .ref a :: S)) := by
  subst hq hn
  obtain ⟨cl, A, r1, r2⟩ := F
  obtain ⟨T', h', X', e', W, st⟩ := stB X hx hZ eT A (inb hj (by omega)) (g := mkF m pc Ls (.int x :: .int j :: .ref a :: S)) rfl rfl hd
  have N1 := Fr.snoc X' N0 ga
  rw [clamp hj] at W
  exact s2 _ st (K T' h' _ X' e' W (AI.set ⟨cl, A, r1, r2⟩ W hk) N1)
theorem stj (X : Stand p l e R s m args below meth c T locs cells slots) (hx : p.tables.exec = Jvm.exec) (hZ : Z.Warmed39 s.vm) (eT : T.heap = h) (F : AJ Z h a n q) {j : Int32} {x : Int64} (k : Nat) (hj : j.toInt = k) (hk : k < n) (N0 : Fr n0 locs) (ga : n0 ≤ a) (hd : decode c.code pc = .ok (.lastore, 1)) (hq : pc + 1 = pc')
    (K : ∀ T' h' L', Stand p l e R s m args below meth c T' L' cells slots → T'.heap = h' → Wr h h' a k (.long x) → AJ Z h' a n (up q k x) → Fr n0 L' → Gl p e below s P C N T' (mkF m pc' Ls S)) : Gl p e below s P C N T (mkF m pc Ls (.long x :: .int j :: .ref a :: S)) := by
  subst hq
  obtain ⟨cl, A, r1, r2⟩ := F
  obtain ⟨T', h', X', e', W, st⟩ := stJ X hx hZ eT A (inb hj (by omega)) (g := mkF m pc Ls (.long x :: .int j :: .ref a :: S)) rfl rfl hd
  have N1 := Fr.snoc X' N0 ga
  rw [clamp hj] at W
  exact s2 _ st (K T' h' _ X' e' W (AJ.set ⟨cl, A, r1, r2⟩ W hk) N1)
end Steps
end Jvm.Pilot.@@N@@.W
namespace Jvm.Pilot.@@N@@.W
open Jvm Jvm.ClassFile Sem Op Lib Jvm.Free Jvm.Stand Jvm.LawKit Jvm.RoadKit
/-! own kit, second part: int arrays that are cloned and copied -/
section Copy
variable {p : Program} {l : Launch} {e : Env} {R : Room} {s : State} {m : MethodId} {args : Array Value} {below : List Frame} {meth : Method} {c : Code} {T T' : State} {locs : List Loc} {cells slots : Nat} {P : Option Value → Heap → List Loc → Prop} {C N : Nat} {Ls : Array Slot} {S : List Value} {pc pc' : Nat} {Z : State} {h : Heap} {a b : Addr} {n n0 : Nat} {f q : Nat → Int32} {a0 : Array Value} {ty : FieldType}
theorem newie (X : Stand p l e R s m args below meth c T locs cells slots) (hx : p.tables.exec = Jvm.exec) (hZ : Z.Warmed39 s.vm) {aty : ArrayType} (w : (Cond.arrayClass ty).before a0 Z = true) (hty : newarray.typeOf aty = ty) (hdv : defaultValue ty = .int 0) (eT : T.heap = h) {z : Int32} (hd : decode c.code pc = .ok (.newarray aty, 2)) (hz : z.toInt = n) {cap : Nat} (hcap : n ≤ cap) (hb : cap * 8 ≤ 536870912) (hc : cells + 1 ≤ R.cells) (hl : slots + cap ≤ R.slots) {ad : String} (had : "[" ++ ty.toString = ad) (hq : pc + 2 = pc')
    (K : ∀ T' h' a, Stand p l e R s m args below meth c T' locs (cells + 1) (slots + cap) → T'.heap = h' → Ext h h' → a = h.size → AI Z h' a ty n (fun _ => 0) → Exa Z h' a ad → Gl p e below s P C N T' (mkF m pc' Ls (.ref a :: S))) : Gl p e below s P C N T (mkF m pc Ls (.int z :: S)) := by
  subst hq hty
  obtain ⟨T', h', k, X', e', E, A, E2, st⟩ := newPE X hx hZ w eT (g := mkF m pc Ls (.int z :: S)) rfl hd rfl (by rw [Int32.lt_iff_toInt_lt, hz, show (0 : Int32).toInt = 0 from rfl]; omega) (cap := cap) (by rw [clamp hz]; exact hcap) hb hc hl had
  exact s2 _ st (K T' h' _ X' e' E rfl (AI.new A hz hdv) E2)
theorem getD_map (n k : Nat) (g : Nat → Value) (d : Value) (hk : k < n) : ((List.range n).map g).getD k d = g k := by
  rw [List.getD_eq_getElem?_getD, List.getElem?_map, List.getElem?_range hk]; rfl
theorem AI.arv (F : AI Z h a .int n f) {z : Int32} (hz : z.toInt = n) : ∃ k, Arv Z h a k .int z ((List.range n).map fun i => .int (f i)) (.int 0) := by
  obtain ⟨cl, A, r1, r2⟩ := F
  refine ⟨cl.cls, cl, A, rfl, by rw [r1, clamp hz], by rw [Int32.lt_iff_toInt_lt, hz, show (0 : Int32).toInt = 0 from rfl]; omega, fun k hk => ?_, fun k hk => ?_⟩
  · rw [r1] at hk; rw [getD_map n k _ _ hk]; exact r2 k hk
  · rw [r1] at hk; rw [getD_map n k _ _ hk]; rfl
theorem AI.ofArv {k : ClassId} {z : Int32} {vs : List Value} {d : Value} (F : Arv Z h a k .int z vs d) (hz : z.toInt = n) (hv : ∀ i, i < n → vs.getD i d = .int (f i)) : AI Z h a .int n f := by
  obtain ⟨cl, A, -, r1, -, H, -⟩ := F
  rw [clamp hz] at r1
  exact ⟨cl, A, r1, fun i hi => by rw [H i (by omega), hv i hi]⟩
theorem cpi (X : Stand p l e R s m args below meth c T locs cells slots) (hx : p.tables.exec = Jvm.exec) (hZ : Z.Warmed39 s.vm) {own : String} {index : Nat} (hown : s.vm.findClass own = some m.cls)
    (w1 : (Cond.methodLink own index Jvm.Stand.acN).before a0 Z = true) (w2 : (Cond.native Jvm.Stand.acN).before a0 Z = true) (w3 : (Cond.static Jvm.Stand.acN).before a0 Z = true) (w4 : (Cond.initialized "java/lang/System").before a0 Z = true) (eT : T.heap = h)
    {k : Nat} {z z' nn : Int32} (A : AI Z h a .int n f) (hz : z.toInt = n) {nd : Nat} (B : AI Z h b .int nd q) (hz' : z'.toInt = nd) (hn : nn.toInt = k) (hk : k ≤ n) (hk' : k ≤ nd) (N0 : Fr n0 locs) (ge : n0 ≤ b)
    (hsize : Ls.size = c.maxLocals) (hd : decode c.code pc = .ok (.invokestatic index, 3)) (hf : 1 ≤ R.frames) {Wd : Nat} (hW : (S.map fun v => v.category).sum ≤ Wd) (hlo : Wd + 18 ≤ R.locals) (hq : pc + 3 = pc')
    (K : ∀ T' h' L', Stand p l e R s m args below meth c T' L' cells slots → T'.heap = h' → Fr n0 L' → Keep h h' [b] → AI Z h' b .int nd (fun i => if i < k then f i else q i) → Gl p e below s P C N T' (mkF m pc' Ls S)) :
    Gl p e below s P C N T (mkF m pc Ls (.int nn :: .int 0 :: .ref b :: .int 0 :: .ref a :: S)) := by
  subst hq
  obtain ⟨ka, VA⟩ := A.arv hz
  obtain ⟨kb, VB⟩ := B.arv hz'
  have c0 : (0 : Int32).toNatClampNeg = 0 := rfl
  have hnl : ¬ nn < 0 := by rw [Int32.lt_iff_toInt_lt, hn, show (0 : Int32).toInt = 0 from rfl]; omega
  obtain ⟨T', h', L', X', e', N', K', V', st⟩ := cpA X hx hZ hown w1 w2 w3 w4 eT VA VB (Or.inl ⟨rfl, rfl⟩) (sp := 0) (dp := 0) (nn := nn) (by decide) (by decide) hnl (by rw [c0, clamp hn, clamp hz]; omega) (by rw [c0, clamp hn, clamp hz']; omega) rfl (by rw [c0, clamp hn, List.length_map, List.length_range]; omega) N0 ge (g := mkF m pc Ls (.int nn :: .int 0 :: .ref b :: .int 0 :: .ref a :: S)) rfl hsize rfl hd hf (W := Wd) (by show 2 * 0 + _ ≤ _; omega) (by rw [show nativeFrameWords "java/lang/System" "arraycopy" 5 = 7 from rfl]; omega)
  refine s2 _ st (K T' h' L' X' e' N' K' (AI.ofArv V' hz' fun i hi => ?_))
  rw [c0, clamp hn, List.take_zero, List.nil_append, List.getD_eq_getElem?_getD]
  by_cases hik : i < k
  · rw [if_pos hik, List.getElem?_append_left (by rw [List.length_map, List.length_range]; exact hik), List.getElem?_map, List.getElem?_range hik]
    simp only [Option.map_some, Option.getD_some, Nat.zero_add]
    exact getD_map n i _ _ (by omega)
  · rw [if_neg hik, List.getElem?_append_right (by rw [List.length_map, List.length_range]; omega), List.length_map, List.length_range, List.getElem?_drop, Nat.zero_add, show k + (i - k) = i by omega, List.getElem?_map, List.getElem?_range hi]
    rfl
theorem clonei (X : Stand p l e R s m args below meth c T locs cells slots) (hx : p.tables.exec = Jvm.exec) (hZ : Z.Warmed39 s.vm) {own ad : String} {index : Nat} (hown : s.vm.findClass own = some m.cls)
    (w1 : (Cond.methodLink own index ⟨ad, "clone", "()Ljava/lang/Object;"⟩).before a0 Z = true) (w2 : (Cond.sameMethod ad "java/lang/Object" "clone" "()Ljava/lang/Object;").before a0 Z = true) (w3 : (Cond.native ⟨"java/lang/Object", "clone", "()Ljava/lang/Object;"⟩).before a0 Z = true)
    (w4 : (Cond.instanceMethod ⟨"java/lang/Object", "clone", "()Ljava/lang/Object;"⟩).before a0 Z = true) (w5 : (Cond.selects ad ⟨ad, "clone", "()Ljava/lang/Object;"⟩ ⟨"java/lang/Object", "clone", "()Ljava/lang/Object;"⟩).before a0 Z = true) (w6 : (Cond.castable ad "java/lang/Cloneable").before a0 Z = true)
    (eT : T.heap = h) (F : AI Z h a .int n f) (E : Exa Z h a ad) (hsize : Ls.size = c.maxLocals) (hd : decode c.code pc = .ok (.invokevirtual index, 3)) (hf : 1 ≤ R.frames) {Wd cap : Nat} (hW : (S.map fun v => v.category).sum ≤ Wd) (hl : Wd + 14 ≤ R.locals) (hcap : n ≤ cap) (hc : cells + 1 ≤ R.cells) (hsl : slots + cap ≤ R.slots) (hq : pc + 3 = pc')
    (K : ∀ T' h' b, Stand p l e R s m args below meth c T' locs (cells + 1) (slots + cap) → T'.heap = h' → Ext h h' → b = h.size → AI Z h' b .int n f → Exa Z h' b ad → Gl p e below s P C N T' (mkF m pc' Ls (.ref b :: S))) : Gl p e below s P C N T (mkF m pc Ls (.ref a :: S)) := by
  subst hq
  obtain ⟨cl, A, r1, r2⟩ := F
  obtain ⟨T', h', X', e', E', A', E2, st⟩ := cloneA X hx hZ hown w1 w2 w3 w4 w5 w6 eT A E (fitC_of A fun i hi v hv => by rw [r2 i (by omega)] at hv; cases hv; rfl) (g := mkF m pc Ls (.ref a :: S)) rfl hsize rfl hd hf (W := Wd) (cap := cap) (by show 2 * 0 + _ ≤ _; omega) hl (by omega) hc hsl
  exact s2 _ st (K T' h' _ X' e' E' rfl ⟨_, A', r1, r2⟩ E2)
theorem castc (X : Stand p l e R s m args below meth c T locs cells slots) (hx : p.tables.exec = Jvm.exec) (hZ : Z.Warmed39 s.vm) {own Kc : String} {index : Nat} (hown : s.vm.findClass own = some m.cls) (w : (Cond.classLink own index Kc).before a0 Z = true) (eT : T.heap = h) (F : Ins Z h a Kc true) (hd : decode c.code pc = .ok (.checkcast index, 3)) (hq : pc + 3 = pc')
    (K : ∀ T', Stand p l e R s m args below meth c T' locs cells slots → T'.heap = h → Gl p e below s P C N T' (mkF m pc' Ls (.ref a :: S))) : Gl p e below s P C N T (mkF m pc Ls (.ref a :: S)) := by
  subst hq
  obtain ⟨T', X', e', st⟩ := castY X hx hZ hown w eT F (g := mkF m pc Ls (.ref a :: S)) rfl rfl hd
  exact s2 _ st (K T' X' e')
end Copy
end Jvm.Pilot.@@N@@.W
namespace Jvm.Pilot.@@N@@
open Jvm Jvm.ClassFile Sem Op Lib Jvm.Free Jvm.Stand Jvm.LawKit Jvm.RoadKit Bundle Jvm.Pilot.@@N@@.Jvm.D
def own_NP (Z : State) (h : Heap) (ao ap an : Addr) (n : Nat) (xs : List Int32) : Prop := ∃ (pf nf : Nat → Int32) (ct : Int32), Exa Z h ao "com/example/tempora/tempora/NotedPoints" ∧ Fld Z h ao "com/example/tempora/tempora/NotedPoints" "points" "[I" (.ref ap) ∧ Fld Z h ao "com/example/tempora/tempora/NotedPoints" "noted" "[Z" (.ref an) ∧ Fld Z h ao "com/example/tempora/tempora/NotedPoints" "count" "I" (.int ct) ∧ W.AI Z h ap .int n pf ∧ W.AI Z h an .boolean n nf ∧ Exa Z h ap "[I" ∧ ct.toInt = (xs.length : Int) ∧ (∀ i, i < xs.length → pf i = xs.getD i 0) ∧ (∀ j, j < n → nf j = if Int32.ofNat j ∈ xs then 1 else 0) ∧ (∀ x ∈ xs, ∃ k : Nat, x.toInt = k ∧ k < n)
theorem own_ofNat {x : Int32} {k : Nat} (h : x.toInt = k) : Int32.ofNat k = x := by
  rw [← Int32.toInt_inj, Int32.toInt_ofNat_small (by have := x.toInt_lt; omega), h]
theorem own_getD {xs : List Int32} {x : Int32} : ∀ i, i < (xs ++ [x]).length → W.up (fun i => xs.getD i 0) xs.length x i = (xs ++ [x]).getD i 0 := by
  intro i hi
  rw [List.length_append, List.length_singleton] at hi
  by_cases e : i = xs.length
  · subst e; rw [W.up_same, List.getD_eq_getElem?_getD, List.getElem?_append_right (Nat.le_refl _), Nat.sub_self]; rfl
  · rw [W.up_other _ _ e, List.getD_eq_getElem?_getD, List.getD_eq_getElem?_getD, List.getElem?_append_left (by omega)]
theorem own_add {pf nf : Nat → Int32} {ct x : Int32} {n k : Nat} {xs : List Int32} (hx : x.toInt = k) (hk : k < n) (h1 : ct.toInt = (xs.length : Int)) (hl : xs.length < n) (hn : n ≤ 8) (h2 : ∀ i, i < xs.length → pf i = xs.getD i 0) (h3 : ∀ j, j < n → nf j = if Int32.ofNat j ∈ xs then 1 else 0) (h4 : ∀ x ∈ xs, ∃ k : Nat, x.toInt = k ∧ k < n) :
    (ct + 1).toInt = ((xs ++ [x]).length : Int) ∧ (∀ i, i < (xs ++ [x]).length → W.up pf xs.length x i = (xs ++ [x]).getD i 0) ∧ (∀ j, j < n → W.up nf k 1 j = if Int32.ofNat j ∈ xs ++ [x] then 1 else 0) ∧ (∀ y ∈ xs ++ [x], ∃ k : Nat, y.toInt = k ∧ k < n) := by
  refine ⟨?_, fun i hi => ?_, fun j hj => ?_, fun y hy => ?_⟩
  · have a := c_iadd ct 1
    have b := rng32 (ct + 1)
    have e1 : (1 : Int32).toInt = 1 := rfl
    rw [List.length_append, List.length_singleton]; omega
  · rw [← own_getD i hi]
    by_cases e : i = xs.length
    · rw [e, W.up_same, W.up_same]
    · rw [List.length_append, List.length_singleton] at hi
      rw [W.up_other _ _ e, W.up_other _ _ e]; exact h2 i (by omega)
  · by_cases e : j = k
    · rw [e, W.up_same, own_ofNat hx, if_pos (List.mem_append_right _ (List.mem_singleton.mpr rfl))]
    · rw [W.up_other _ _ e, h3 j hj]
      have ne : ¬ Int32.ofNat j = x := fun q => e (by have : (Int32.ofNat j).toInt = j := Int32.toInt_ofNat_small (by omega); rw [q, hx] at this; omega)
      by_cases hm : Int32.ofNat j ∈ xs
      · rw [if_pos hm, if_pos (List.mem_append_left _ hm)]
      · rw [if_neg hm, if_neg (fun q => (List.mem_append.mp q).elim hm (fun z => ne (List.mem_singleton.mp z)))]
  · rcases List.mem_append.mp hy with q | q
    · exact h4 y q
    · rw [List.mem_singleton.mp q]; exact ⟨k, hx, hk⟩
theorem own_mem {nf : Nat → Int32} {x : Int32} {n k : Nat} {xs : List Int32} (hx : x.toInt = k) (hk : k < n) (h3 : ∀ j, j < n → nf j = if Int32.ofNat j ∈ xs then 1 else 0) (q : ¬ nf k = 0) : x ∈ xs := by
  rw [h3 k hk, own_ofNat hx] at q
  by_cases hm : x ∈ xs
  · exact hm
  · rw [if_neg hm] at q; exact absurd rfl q
theorem own_nmem {nf : Nat → Int32} {x : Int32} {n k : Nat} {xs : List Int32} (hx : x.toInt = k) (hk : k < n) (h3 : ∀ j, j < n → nf j = if Int32.ofNat j ∈ xs then 1 else 0) (q : nf k = 0) : x ∉ xs := by
  intro hm; rw [h3 k hk, own_ofNat hx, if_pos hm] at q; exact absurd q (by decide)
theorem own_drop {xs : List Int32} {j : Nat} (hj : j < xs.length) : xs.drop j = xs.getD j 0 :: xs.drop (j + 1) := by
  rw [List.drop_eq_getElem_cons hj, List.getD_eq_getElem?_getD, List.getElem?_eq_getElem hj]; rfl
theorem own_gm {xs : List Int32} {j : Nat} (hj : j < xs.length) : xs.getD j 0 ∈ xs := by
  rw [List.getD_eq_getElem?_getD, List.getElem?_eq_getElem hj]; exact List.getElem_mem hj
theorem own_sz {x y : Int32} (h : (1 : Int32) + (x &&& (7 : Int32)) = y) : ∃ k : Nat, y.toInt = k ∧ 1 ≤ k ∧ k ≤ 8 := by
  have h0 := c_mask x 7 3 (by decide) rfl
  have h1 := c_iadd 1 (x &&& (7 : Int32))
  have h2 := rng32 y
  have e1 : (1 : Int32).toInt = 1 := rfl
  rw [h] at h1
  exact ⟨y.toInt.toNat, by omega, by omega, by omega⟩
theorem own_pt {x y r : Int32} {n : Nat} (hy : y.toInt = n) (h1 : 1 ≤ n) (h : (x &&& (2147483647 : Int32)) % y = r) : ∃ k : Nat, r.toInt = k ∧ k < n := by
  have h0 : 0 ≤ (x &&& (2147483647 : Int32)).toInt := (c_andS _ _).2.2 (by decide)
  have e := (c_irem (x &&& (2147483647 : Int32)) y n hy).1 h0
  rw [h] at e
  have h2 := Int.emod_nonneg (x &&& (2147483647 : Int32)).toInt (show (n : Int) ≠ 0 by omega)
  have h3 := Int.emod_lt_of_pos (x &&& (2147483647 : Int32)).toInt (show (0 : Int) < n by omega)
  exact ⟨r.toInt.toNat, by omega, by omega⟩
theorem own_ne {x y : Int32} (h : ¬ x = y) : x.toInt ≠ y.toInt := fun q => h (Int32.toInt_inj.mp q)
theorem pn_0 : plainName "com/example/tempora/tempora/NotedPoints" = true := by first | (simp [plainName, overriddenIn]; done) | decide +kernel
theorem ef_1 (m : MethodId) (x0 : Addr) (x1 : Int32) : entryFrame m #[(.ref x0), (.int x1)] 2 = mkF m 0 #[.val (.ref x0), .val (.int x1)] [] := by first | (simp [entryFrame, mkF, argsToLocals, Value.category]; done) | rfl
theorem d1_0 : decode prog_16_method_1_code 0 = .ok (.aload_n 0, 1) := by decide +kernel
theorem d1_1 : decode prog_16_method_1_code 1 = .ok (.invokespecial 1, 3) := by decide +kernel
theorem d1_4 : decode prog_16_method_1_code 4 = .ok (.aload_n 0, 1) := by decide +kernel
theorem d1_5 : decode prog_16_method_1_code 5 = .ok (.iload_n 1, 1) := by decide +kernel
theorem d1_6 : decode prog_16_method_1_code 6 = .ok (.newarray .int, 2) := by decide +kernel
theorem d1_8 : decode prog_16_method_1_code 8 = .ok (.putfield 7, 3) := by decide +kernel
theorem d1_11 : decode prog_16_method_1_code 11 = .ok (.aload_n 0, 1) := by decide +kernel
theorem d1_12 : decode prog_16_method_1_code 12 = .ok (.iload_n 1, 1) := by decide +kernel
theorem d1_13 : decode prog_16_method_1_code 13 = .ok (.newarray .boolean, 2) := by decide +kernel
theorem d1_15 : decode prog_16_method_1_code 15 = .ok (.putfield 13, 3) := by decide +kernel
theorem d1_18 : decode prog_16_method_1_code 18 = .ok (.return_, 1) := by decide +kernel
def Q1 (Z : State) (ao : Addr) (xz : Int32) (n : Nat) (u1 : Value) (u2 : Value) (h0 : Heap) (n0 : Nat) (v : Option Value) (h : Heap) (L : List Loc) : Prop := v = none ∧ Fr n0 L ∧ Keep h0 h [ao] ∧ ∃ ap an : Addr, h0.size ≤ ap ∧ h0.size ≤ an ∧ ap ≠ an ∧ ao ≠ ap ∧ ao ≠ an ∧ own_NP Z h ao ap an n []
set_option maxRecDepth 65536 in
set_option maxHeartbeats 40000000 in
theorem rm1 (l : Launch) (Z : State) (a0 : Array Value) (hw : ∀ d ∈ tables_1, d.before a0 Z = true) (ws : List Jvm.Cond) (ao : Addr) (xz : Int32) (n : Nat) (u1 : Value) (u2 : Value) (h0 : Heap) (n0 : Nat) (Z0 : n0 ≤ h0.size) (hz : xz.toInt = n) (hc : n ≤ 8) (E1 : Exa Z h0 ao "com/example/tempora/tempora/NotedPoints") (F1 : Fld Z h0 ao "com/example/tempora/tempora/NotedPoints" "points" "[I" u1) (F2 : Fld Z h0 ao "com/example/tempora/tempora/NotedPoints" "noted" "[Z" u2) (F3 : Fld Z h0 ao "com/example/tempora/tempora/NotedPoints" "count" "I" (.int 0)) (g1 : n0 ≤ ao) :
    MetFree l (⟨"com/example/tempora/tempora/NotedPoints", "<init>", "(I)V"⟩ : MethodName) (head1 (Jvm.Cond.code (⟨"com/example/tempora/tempora/NotedPoints", "<init>", "(I)V"⟩ : MethodName) prog_16_method_1_code 2 none :: ws) ({ frames := 1, cells := 2, slots := 16, locals := 12 } : Room)) (fun a U => a = #[(.ref ao), (.int xz)] ∧ Z.Warmed39 U.vm ∧ U.heap = h0) (fun _ _ _ _ _ => True) (fun _ U o U' => ∃ v L, o = .returned v ∧ Q1 Z ao xz n u1 u2 h0 n0 v U'.heap L ∧ FrameEnd U o U' L ({ frames := 1, cells := 2, slots := 16, locals := 12 } : Room).cells ({ frames := 1, cells := 2, slots := 16, locals := 12 } : Room).slots) := by
  refine MetFree.of_bodySF (plainFor_of_name pn_0) hisR ?_
  intro p e s m args below meth c s₁ Bd hml0 hP hK
  obtain ⟨rfl, hZ, hh⟩ := hP
  have hx := Bd.exec
  have hby := Bd.bytes
  have hml : c.maxLocals = 2 := hml0
  have hown : s.vm.findClass "com/example/tempora/tempora/NotedPoints" = some m.cls := findClass_of_methodNamed Bd.named
  have hnm := (name_of_methodNamed Bd.named Bd.method).1
  have hlk : meth.locks = false := BodyLoose.notSynchronized Bd
  have X0 : Stand p l e ({ frames := 1, cells := 2, slots := 16, locals := 12 } : Room) s m #[(.ref ao), (.int xz)] below meth c s₁ [] 0 0 := Stand.of_body Bd
  have e0 : s₁.heap = h0 := by rw [← hh, Bd.state]; rfl
  have N0 := Fr.nil n0
  show W.Gl p e below s (Q1 Z ao xz n u1 u2 h0 n0) ({ frames := 1, cells := 2, slots := 16, locals := 12 } : Room).cells ({ frames := 1, cells := 2, slots := 16, locals := 12 } : Room).slots s₁ (entryFrame m #[(.ref ao), (.int xz)] 2)
  refine W.cast (ef_1 m ao xz) ?_
  have K0 : Keep h0 h0 [ao] := Keep.refl h0 [ao]
  refine W.s1 (mkF m 1 #[.val (.ref ao), .val (.int xz)] [(.ref ao)]) (fun _ kx_ => XS.aloadN X0.here hx rfl (hb hby d1_0) rfl rfl kx_) ?_
  obtain ⟨T101, X101, e101, st101⟩ := initO X0 hx hZ hown (hw _ (List.mem_of_getElem? (i := 7) rfl)) (hw _ (List.mem_of_getElem? (i := 8) rfl)) (hw _ (List.mem_of_getElem? (i := 9) rfl)) e0 (g := (mkF m 1 #[.val (.ref ao), .val (.int xz)] [(.ref ao)])) rfl (by rw [hml]; rfl) rfl (hb hby d1_1) (by decide) (W := 0) (by show 2 * 0 + _ ≤ _; exact Nat.le_of_eq rfl) (by decide)
  refine W.s2 (mkF m 4 #[.val (.ref ao), .val (.int xz)] []) st101 ?_
  refine W.s1 (mkF m 5 #[.val (.ref ao), .val (.int xz)] [(.ref ao)]) (fun _ kx_ => XS.aloadN X101.here hx rfl (hb hby d1_4) rfl rfl kx_) ?_
  refine W.s1 (mkF m 6 #[.val (.ref ao), .val (.int xz)] [(.int xz), (.ref ao)]) (fun _ kx_ => XS.iloadN X101.here hx rfl (hb hby d1_5) rfl kx_) ?_
  refine W.newie X101 hx hZ (ty := .int) (aty := .int) (hw _ (List.mem_of_getElem? (i := 10) rfl)) rfl rfl e101 (hb hby d1_6) (n := n) hz (cap := 8) hc (by decide) (by decide) (by decide) (ad := "[I") (by first | rfl | decide) (pc' := 8) rfl (fun T102 h102 ap X102 e102 E102 g102 A102 Ex102 => ?_)
  have ne103 : ao ≠ ap := Nat.ne_of_lt (Nat.lt_of_lt_of_le E1.lt (Nat.le_of_eq g102.symm))
  have ge102 : n0 ≤ ap := Nat.le_trans Z0 (Nat.le_of_eq g102.symm)
  have sz102 : h0.size ≤ ap := Nat.le_trans K0.1 (Nat.le_of_eq g102.symm)
  have Z102 : n0 ≤ h102.size := Nat.le_trans Z0 E102.1
  have K102 : Keep h0 h102 [ao] := K0.ext E102
  have f104 := E1.ext E102
  have f105 := F1.ext E102
  have f106 := F2.ext E102
  have f107 := F3.ext E102
  refine W.putf X102 hx hZ hown (host := "") (Or.inl (hw _ (List.mem_of_getElem? (i := 11) rfl))) Via.refl e102 f105 f104 (Or.inr ⟨(hw _ (List.mem_of_getElem? (i := 12) rfl)), rfl, hnm⟩) (hw _ (List.mem_of_getElem? (i := 2) rfl)) (ty := (.array .int)) (by decide) rfl rfl N0 g1 (hb hby d1_8) (pc' := 11) rfl (fun T108 h108 L108 X108 e108 W108 fw108 N108 => ?_)
  have Z108 : n0 ≤ h108.size := Nat.le_trans Z102 (Keep.of_wr W108).1
  have f109 := f104.wr W108
  have f110 := f106.other W108 (Or.inr (slot_ne (Or.inr (hw _ (List.mem_of_getElem? (i := 15) rfl))) (Or.inr (hw _ (List.mem_of_getElem? (i := 12) rfl))) (by decide) (t := (.array .boolean)) (t' := (.array .int)) (by decide) (by decide)))
  have f111 := f107.other W108 (Or.inr (slot_ne (Or.inl (hw _ (List.mem_of_getElem? (i := 22) rfl))) (Or.inr (hw _ (List.mem_of_getElem? (i := 12) rfl))) (by decide) (t := .int) (t' := (.array .int)) (by decide) (by decide)))
  have f112 := A102.other W108 (Ne.symm ne103)
  have f113 := Ex102.wr W108
  have K108 : Keep h0 h108 [ao] := K102.wr W108 (Or.inl (List.mem_of_getElem? (i := 0) rfl))
  refine W.s1 (mkF m 12 #[.val (.ref ao), .val (.int xz)] [(.ref ao)]) (fun _ kx_ => XS.aloadN X108.here hx rfl (hb hby d1_11) rfl rfl kx_) ?_
  refine W.s1 (mkF m 13 #[.val (.ref ao), .val (.int xz)] [(.int xz), (.ref ao)]) (fun _ kx_ => XS.iloadN X108.here hx rfl (hb hby d1_12) rfl kx_) ?_
  refine W.newi X108 hx hZ (ty := .boolean) (aty := .boolean) (hw _ (List.mem_of_getElem? (i := 13) rfl)) rfl rfl e108 (hb hby d1_13) (n := n) hz (cap := 8) hc (by decide) (by decide) (by decide) (pc' := 15) rfl (fun T114 h114 an X114 e114 E114 g114 A114 => ?_)
  have ne115 : ao ≠ an := Nat.ne_of_lt (Nat.lt_of_lt_of_le f109.lt (Nat.le_of_eq g114.symm))
  have ne116 : ap ≠ an := Nat.ne_of_lt (Nat.lt_of_lt_of_le f112.lt (Nat.le_of_eq g114.symm))
  have ge114 : n0 ≤ an := Nat.le_trans Z108 (Nat.le_of_eq g114.symm)
  have sz114 : h0.size ≤ an := Nat.le_trans K108.1 (Nat.le_of_eq g114.symm)
  have Z114 : n0 ≤ h114.size := Nat.le_trans Z108 E114.1
  have K114 : Keep h0 h114 [ao] := K108.ext E114
  have f117 := f109.ext E114
  have f118 := fw108.ext E114
  have f119 := f110.ext E114
  have f120 := f111.ext E114
  have f121 := f112.ext E114
  have f122 := f113.ext E114
  refine W.putf X114 hx hZ hown (host := "") (Or.inl (hw _ (List.mem_of_getElem? (i := 14) rfl))) Via.refl e114 f119 f117 (Or.inr ⟨(hw _ (List.mem_of_getElem? (i := 15) rfl)), rfl, hnm⟩) (hw _ (List.mem_of_getElem? (i := 2) rfl)) (ty := (.array .boolean)) (by decide) rfl rfl N108 g1 (hb hby d1_15) (pc' := 18) rfl (fun T123 h123 L123 X123 e123 W123 fw123 N123 => ?_)
  have Z123 : n0 ≤ h123.size := Nat.le_trans Z114 (Keep.of_wr W123).1
  have f124 := f117.wr W123
  have f125 := f118.other W123 (Or.inr (slot_ne (Or.inr (hw _ (List.mem_of_getElem? (i := 12) rfl))) (Or.inr (hw _ (List.mem_of_getElem? (i := 15) rfl))) (by decide) (t := (.array .int)) (t' := (.array .boolean)) (by decide) (by decide)))
  have f126 := f120.other W123 (Or.inr (slot_ne (Or.inl (hw _ (List.mem_of_getElem? (i := 22) rfl))) (Or.inr (hw _ (List.mem_of_getElem? (i := 15) rfl))) (by decide) (t := .int) (t' := (.array .boolean)) (by decide) (by decide)))
  have f127 := f121.other W123 (Ne.symm ne103)
  have f128 := f122.wr W123
  have f129 := A114.other W123 (Ne.symm ne115)
  have K123 : Keep h0 h123 [ao] := K114.wr W123 (Or.inl (List.mem_of_getElem? (i := 0) rfl))
  exact W.ret0 X123 hx hlk Bd.returns (hb hby d1_18) (by show Q1 Z ao xz n u1 u2 h0 n0 _ T123.heap _; rw [e123]; exact ⟨rfl, N123, K123, ap, an, sz102, sz114, ne116, ne103, ne115, ⟨_, _, _, f124, f125, fw123, f126, f127, f129, f128, rfl, fun i hi => absurd hi (Nat.not_lt_zero i), fun j hj => by rw [if_neg List.not_mem_nil], fun x hx => absurd hx List.not_mem_nil⟩⟩) (by decide) (by decide)
theorem ef_3 (m : MethodId) (x0 : Addr) (x1 : Int32) : entryFrame m #[(.ref x0), (.int x1)] 2 = mkF m 0 #[.val (.ref x0), .val (.int x1)] [] := by first | (simp [entryFrame, mkF, argsToLocals, Value.category]; done) | rfl
theorem d3_0 : decode prog_16_method_2_code 0 = .ok (.aload_n 0, 1) := by decide +kernel
theorem d3_1 : decode prog_16_method_2_code 1 = .ok (.getfield 13, 3) := by decide +kernel
theorem d3_4 : decode prog_16_method_2_code 4 = .ok (.iload_n 1, 1) := by decide +kernel
theorem d3_5 : decode prog_16_method_2_code 5 = .ok (.baload, 1) := by decide +kernel
theorem d3_6 : decode prog_16_method_2_code 6 = .ok (.ifCond .ne 27, 3) := by decide +kernel
theorem d3_33 : decode prog_16_method_2_code 33 = .ok (.return_, 1) := by decide +kernel
theorem d3_9 : decode prog_16_method_2_code 9 = .ok (.aload_n 0, 1) := by decide +kernel
theorem d3_10 : decode prog_16_method_2_code 10 = .ok (.getfield 13, 3) := by decide +kernel
theorem d3_13 : decode prog_16_method_2_code 13 = .ok (.iload_n 1, 1) := by decide +kernel
theorem d3_14 : decode prog_16_method_2_code 14 = .ok (.iconst 1, 1) := by decide +kernel
theorem d3_15 : decode prog_16_method_2_code 15 = .ok (.bastore, 1) := by decide +kernel
theorem d3_16 : decode prog_16_method_2_code 16 = .ok (.aload_n 0, 1) := by decide +kernel
theorem d3_17 : decode prog_16_method_2_code 17 = .ok (.getfield 7, 3) := by decide +kernel
theorem d3_20 : decode prog_16_method_2_code 20 = .ok (.aload_n 0, 1) := by decide +kernel
theorem d3_21 : decode prog_16_method_2_code 21 = .ok (.dup, 1) := by decide +kernel
theorem d3_22 : decode prog_16_method_2_code 22 = .ok (.getfield 17, 3) := by decide +kernel
theorem d3_25 : decode prog_16_method_2_code 25 = .ok (.dup_x1, 1) := by decide +kernel
theorem d3_26 : decode prog_16_method_2_code 26 = .ok (.iconst 1, 1) := by decide +kernel
theorem d3_27 : decode prog_16_method_2_code 27 = .ok (.iadd, 1) := by decide +kernel
theorem d3_28 : decode prog_16_method_2_code 28 = .ok (.putfield 17, 3) := by decide +kernel
theorem d3_31 : decode prog_16_method_2_code 31 = .ok (.iload_n 1, 1) := by decide +kernel
theorem d3_32 : decode prog_16_method_2_code 32 = .ok (.iastore, 1) := by decide +kernel
def Q3 (Z : State) (ao : Addr) (xp : Int32) (ap : Addr) (an : Addr) (n : Nat) (xz : Int32) (xs : List Int32) (k : Nat) (h0 : Heap) (n0 : Nat) (v : Option Value) (h : Heap) (L : List Loc) : Prop := v = none ∧ Fr n0 L ∧ Keep h0 h [ao, ap, an] ∧ ((xp ∈ xs ∧ own_NP Z h ao ap an n xs) ∨ (xp ∉ xs ∧ own_NP Z h ao ap an n (xs ++ [xp])))
set_option maxRecDepth 65536 in
set_option maxHeartbeats 40000000 in
theorem rm3 (l : Launch) (Z : State) (a0 : Array Value) (hw : ∀ d ∈ tables_1, d.before a0 Z = true) (ws : List Jvm.Cond) (ao : Addr) (xp : Int32) (ap : Addr) (an : Addr) (n : Nat) (xz : Int32) (xs : List Int32) (k : Nat) (h0 : Heap) (n0 : Nat) (Z0 : n0 ≤ h0.size) (hz : xz.toInt = n) (hn : n ≤ 8) (H0 : own_NP Z h0 ao ap an n xs) (hk : xp.toInt = k) (hkl : k < n) (hr : xp ∈ xs ∨ xs.length < n) (ne1 : ao ≠ ap) (ne2 : ao ≠ an) (ne3 : ap ≠ an) (g1 : n0 ≤ ao) (g2 : n0 ≤ ap) (g3 : n0 ≤ an) :
    MetFree l (⟨"com/example/tempora/tempora/NotedPoints", "note", "(I)V"⟩ : MethodName) (head1 (Jvm.Cond.code (⟨"com/example/tempora/tempora/NotedPoints", "note", "(I)V"⟩ : MethodName) prog_16_method_2_code 2 none :: ws) ({ frames := 0, cells := 0, slots := 0, locals := 0 } : Room)) (fun a U => a = #[(.ref ao), (.int xp)] ∧ Z.Warmed39 U.vm ∧ U.heap = h0) (fun _ _ _ _ _ => True) (fun _ U o U' => ∃ v L, o = .returned v ∧ Q3 Z ao xp ap an n xz xs k h0 n0 v U'.heap L ∧ FrameEnd U o U' L ({ frames := 0, cells := 0, slots := 0, locals := 0 } : Room).cells ({ frames := 0, cells := 0, slots := 0, locals := 0 } : Room).slots) := by
  refine MetFree.of_bodySF (plainFor_of_name pn_0) hisR ?_
  intro p e s m args below meth c s₁ Bd hml0 hP hK
  obtain ⟨rfl, hZ, hh⟩ := hP
  have hx := Bd.exec
  have hby := Bd.bytes
  have hml : c.maxLocals = 2 := hml0
  have hown : s.vm.findClass "com/example/tempora/tempora/NotedPoints" = some m.cls := findClass_of_methodNamed Bd.named
  have hnm := (name_of_methodNamed Bd.named Bd.method).1
  have hlk : meth.locks = false := BodyLoose.notSynchronized Bd
  have X0 : Stand p l e ({ frames := 0, cells := 0, slots := 0, locals := 0 } : Room) s m #[(.ref ao), (.int xp)] below meth c s₁ [] 0 0 := Stand.of_body Bd
  have e0 : s₁.heap = h0 := by rw [← hh, Bd.state]; rfl
  have N0 := Fr.nil n0
  show W.Gl p e below s (Q3 Z ao xp ap an n xz xs k h0 n0) ({ frames := 0, cells := 0, slots := 0, locals := 0 } : Room).cells ({ frames := 0, cells := 0, slots := 0, locals := 0 } : Room).slots s₁ (entryFrame m #[(.ref ao), (.int xp)] 2)
  refine W.cast (ef_3 m ao xp) ?_
  have K0 : Keep h0 h0 [ao, ap, an] := Keep.refl h0 [ao, ap, an]
  have H0' := H0
  obtain ⟨pf, nf, ct, E1, F1, F2, F3, A1, A2, X1, h1, h2, h3, h4⟩ := H0
  refine W.s1 (mkF m 1 #[.val (.ref ao), .val (.int xp)] [(.ref ao)]) (fun _ kx_ => XS.aloadN X0.here hx rfl (hb hby d3_0) rfl rfl kx_) ?_
  refine W.getf X0 hx hZ hown (host := "") (Or.inl (hw _ (List.mem_of_getElem? (i := 14) rfl))) Via.refl e0 F2 (hb hby d3_1) (pc' := 4) rfl (fun T101 X101 e101 => ?_)
  refine W.s1 (mkF m 5 #[.val (.ref ao), .val (.int xp)] [(.int xp), (.ref an)]) (fun _ kx_ => XS.iloadN X101.here hx rfl (hb hby d3_4) rfl kx_) ?_
  refine W.ldz X101 hx hZ e101 A2 k hk hkl (hb hby d3_5) (pc' := 6) rfl ?_
  refine W.ifc X101 hx (hb hby d3_6) (pc' := 33) (pc'' := 9) (by decide) (by decide) rfl (fun (c6 : ¬ (nf k) = (0 : Int32)) => ?_) (fun (c6 : (nf k) = (0 : Int32)) => ?_)
  · exact W.ret0 X101 hx hlk Bd.returns (hb hby d3_33) (by show Q3 Z ao xp ap an n xz xs k h0 n0 _ T101.heap _; rw [e101]; exact ⟨rfl, N0, K0, Or.inl ⟨own_mem hk hkl h3 c6, H0'⟩⟩) (by decide) (by decide)
  · have hnm : xp ∉ xs := own_nmem hk hkl h3 c6
    have hl : xs.length < n := hr.resolve_left hnm
    obtain ⟨j1, j2, j3, j4⟩ := own_add hk hkl h1 hl hn h2 h3 h4
    refine W.s1 (mkF m 10 #[.val (.ref ao), .val (.int xp)] [(.ref ao)]) (fun _ kx_ => XS.aloadN X101.here hx rfl (hb hby d3_9) rfl rfl kx_) ?_
    refine W.getf X101 hx hZ hown (host := "") (Or.inl (hw _ (List.mem_of_getElem? (i := 14) rfl))) Via.refl e101 F2 (hb hby d3_10) (pc' := 13) rfl (fun T102 X102 e102 => ?_)
    refine W.s1 (mkF m 14 #[.val (.ref ao), .val (.int xp)] [(.int xp), (.ref an)]) (fun _ kx_ => XS.iloadN X102.here hx rfl (hb hby d3_13) rfl kx_) ?_
    refine W.s1 (mkF m 15 #[.val (.ref ao), .val (.int xp)] [(.int (1 : Int32)), (.int xp), (.ref an)]) (fun _ kx_ => XS.iconst X102.here hx rfl (hb hby d3_14) kx_) ?_
    refine W.stz X102 hx hZ e102 A2 (x' := (1 : Int32)) rfl k hk hkl N0 g3 (hb hby d3_15) (pc' := 16) rfl (fun T103 h103 L103 X103 e103 W103 fw103 N103 => ?_)
    have Z103 : n0 ≤ h103.size := Nat.le_trans Z0 (Keep.of_wr W103).1
    have f104 := E1.wr W103
    have f105 := F1.other W103 (Or.inl ne2)
    have f106 := F2.other W103 (Or.inl ne2)
    have f107 := F3.other W103 (Or.inl ne2)
    have f108 := A1.other W103 ne3
    have f109 := X1.wr W103
    have K103 : Keep h0 h103 [ao, ap, an] := K0.wr W103 (Or.inl (List.mem_of_getElem? (i := 2) rfl))
    refine W.s1 (mkF m 17 #[.val (.ref ao), .val (.int xp)] [(.ref ao)]) (fun _ kx_ => XS.aloadN X103.here hx rfl (hb hby d3_16) rfl rfl kx_) ?_
    refine W.getf X103 hx hZ hown (host := "") (Or.inl (hw _ (List.mem_of_getElem? (i := 11) rfl))) Via.refl e103 f105 (hb hby d3_17) (pc' := 20) rfl (fun T110 X110 e110 => ?_)
    refine W.s1 (mkF m 21 #[.val (.ref ao), .val (.int xp)] [(.ref ao), (.ref ap)]) (fun _ kx_ => XS.aloadN X110.here hx rfl (hb hby d3_20) rfl rfl kx_) ?_
    refine W.s1 (mkF m 22 #[.val (.ref ao), .val (.int xp)] [(.ref ao), (.ref ao), (.ref ap)]) (fun _ kx_ => XS.dup X110.here hx rfl (hb hby d3_21) rfl rfl kx_) ?_
    refine W.getf X110 hx hZ hown (host := "") (Or.inl (hw _ (List.mem_of_getElem? (i := 21) rfl))) Via.refl e110 f107 (hb hby d3_22) (pc' := 25) rfl (fun T111 X111 e111 => ?_)
    refine W.s1 (mkF m 26 #[.val (.ref ao), .val (.int xp)] [(.int ct), (.ref ao), (.int ct), (.ref ap)]) (fun _ kx_ => XS.dupX1 X111.here hx rfl (hb hby d3_25) rfl rfl rfl kx_) ?_
    refine W.s1 (mkF m 27 #[.val (.ref ao), .val (.int xp)] [(.int (1 : Int32)), (.int ct), (.ref ao), (.int ct), (.ref ap)]) (fun _ kx_ => XS.iconst X111.here hx rfl (hb hby d3_26) kx_) ?_
    refine W.s1 (mkF m 28 #[.val (.ref ao), .val (.int xp)] [(.int (ct + (1 : Int32))), (.ref ao), (.int ct), (.ref ap)]) (fun _ kx_ => XS.iadd X111.here hx rfl (hb hby d3_27) rfl kx_) ?_
    refine W.putf X111 hx hZ hown (host := "") (Or.inl (hw _ (List.mem_of_getElem? (i := 21) rfl))) Via.refl e111 f107 f104 (Or.inl (hw _ (List.mem_of_getElem? (i := 22) rfl))) (hw _ (List.mem_of_getElem? (i := 2) rfl)) (ty := .int) (by decide) rfl rfl N103 g1 (hb hby d3_28) (pc' := 31) rfl (fun T112 h112 L112 X112 e112 W112 fw112 N112 => ?_)
    have Z112 : n0 ≤ h112.size := Nat.le_trans Z103 (Keep.of_wr W112).1
    have f113 := f104.wr W112
    have f114 := f105.other W112 (Or.inr (slot_ne (Or.inr (hw _ (List.mem_of_getElem? (i := 12) rfl))) (Or.inl (hw _ (List.mem_of_getElem? (i := 22) rfl))) (by decide) (t := (.array .int)) (t' := .int) (by decide) (by decide)))
    have f115 := f106.other W112 (Or.inr (slot_ne (Or.inr (hw _ (List.mem_of_getElem? (i := 15) rfl))) (Or.inl (hw _ (List.mem_of_getElem? (i := 22) rfl))) (by decide) (t := (.array .boolean)) (t' := .int) (by decide) (by decide)))
    have f116 := f108.other W112 (Ne.symm ne1)
    have f117 := fw103.other W112 (Ne.symm ne2)
    have f118 := f109.wr W112
    have K112 : Keep h0 h112 [ao, ap, an] := K103.wr W112 (Or.inl (List.mem_of_getElem? (i := 0) rfl))
    refine W.s1 (mkF m 32 #[.val (.ref ao), .val (.int xp)] [(.int xp), (.int ct), (.ref ap)]) (fun _ kx_ => XS.iloadN X112.here hx rfl (hb hby d3_31) rfl kx_) ?_
    refine W.sti X112 hx hZ e112 f116 xs.length h1 hl N112 g2 (hb hby d3_32) (pc' := 33) rfl (fun T119 h119 L119 X119 e119 W119 fw119 N119 => ?_)
    have Z119 : n0 ≤ h119.size := Nat.le_trans Z112 (Keep.of_wr W119).1
    have f120 := f113.wr W119
    have f121 := f114.other W119 (Or.inl ne1)
    have f122 := f115.other W119 (Or.inl ne1)
    have f123 := fw112.other W119 (Or.inl ne1)
    have f124 := f117.other W119 (Ne.symm ne3)
    have f125 := f118.wr W119
    have K119 : Keep h0 h119 [ao, ap, an] := K112.wr W119 (Or.inl (List.mem_of_getElem? (i := 1) rfl))
    exact W.ret0 X119 hx hlk Bd.returns (hb hby d3_33) (by show Q3 Z ao xp ap an n xz xs k h0 n0 _ T119.heap _; rw [e119]; exact ⟨rfl, N119, K119, Or.inr ⟨hnm, ⟨_, _, _, f120, f121, f122, f123, fw119, f124, f125, j1, j2, j3, j4⟩⟩⟩) (by decide) (by decide)
theorem ef_6 (m : MethodId) (x0 : Addr) : entryFrame m #[(.ref x0)] 2 = mkF m 0 #[.val (.ref x0), .unset] [] := by first | (simp [entryFrame, mkF, argsToLocals, Value.category]; done) | rfl
theorem d6_0 : decode prog_16_method_4_code 0 = .ok (.iconst 0, 1) := by decide +kernel
theorem d6_1 : decode prog_16_method_4_code 1 = .ok (.istore_n 1, 1) := by decide +kernel
theorem d6_2 : decode prog_16_method_4_code 2 = .ok (.iload_n 1, 1) := by decide +kernel
theorem d6_3 : decode prog_16_method_4_code 3 = .ok (.aload_n 0, 1) := by decide +kernel
theorem d6_4 : decode prog_16_method_4_code 4 = .ok (.getfield 17, 3) := by decide +kernel
theorem d6_7 : decode prog_16_method_4_code 7 = .ok (.if_icmp .ge 21, 3) := by decide +kernel
theorem d6_28 : decode prog_16_method_4_code 28 = .ok (.aload_n 0, 1) := by decide +kernel
theorem d6_29 : decode prog_16_method_4_code 29 = .ok (.iconst 0, 1) := by decide +kernel
theorem d6_30 : decode prog_16_method_4_code 30 = .ok (.putfield 17, 3) := by decide +kernel
theorem d6_33 : decode prog_16_method_4_code 33 = .ok (.return_, 1) := by decide +kernel
theorem d6_10 : decode prog_16_method_4_code 10 = .ok (.aload_n 0, 1) := by decide +kernel
theorem d6_11 : decode prog_16_method_4_code 11 = .ok (.getfield 13, 3) := by decide +kernel
theorem d6_14 : decode prog_16_method_4_code 14 = .ok (.aload_n 0, 1) := by decide +kernel
theorem d6_15 : decode prog_16_method_4_code 15 = .ok (.getfield 7, 3) := by decide +kernel
theorem d6_18 : decode prog_16_method_4_code 18 = .ok (.iload_n 1, 1) := by decide +kernel
theorem d6_19 : decode prog_16_method_4_code 19 = .ok (.iaload, 1) := by decide +kernel
theorem d6_20 : decode prog_16_method_4_code 20 = .ok (.iconst 0, 1) := by decide +kernel
theorem d6_21 : decode prog_16_method_4_code 21 = .ok (.bastore, 1) := by decide +kernel
theorem d6_22 : decode prog_16_method_4_code 22 = .ok (.iinc 1 1, 3) := by decide +kernel
theorem d6_25 : decode prog_16_method_4_code 25 = .ok (.goto (-23), 3) := by decide +kernel
def Q6 (Z : State) (ao : Addr) (ap : Addr) (an : Addr) (n : Nat) (xz : Int32) (xs : List Int32) (h0 : Heap) (n0 : Nat) (v : Option Value) (h : Heap) (L : List Loc) : Prop := v = none ∧ Fr n0 L ∧ Keep h0 h [ao, ap, an] ∧ own_NP Z h ao ap an n []
set_option maxRecDepth 65536 in
set_option maxHeartbeats 40000000 in
theorem rm6 (l : Launch) (Z : State) (a0 : Array Value) (hw : ∀ d ∈ tables_1, d.before a0 Z = true) (ws : List Jvm.Cond) (ao : Addr) (ap : Addr) (an : Addr) (n : Nat) (xz : Int32) (xs : List Int32) (h0 : Heap) (n0 : Nat) (Z0 : n0 ≤ h0.size) (hz : xz.toInt = n) (hn : n ≤ 8) (H0 : own_NP Z h0 ao ap an n xs) (ne1 : ao ≠ ap) (ne2 : ao ≠ an) (ne3 : ap ≠ an) (g1 : n0 ≤ ao) (g2 : n0 ≤ ap) (g3 : n0 ≤ an) (hlen0 : ∀ {j : Nat}, j < xs.length → j < n) :
    MetFree l (⟨"com/example/tempora/tempora/NotedPoints", "clear", "()V"⟩ : MethodName) (head1 (Jvm.Cond.code (⟨"com/example/tempora/tempora/NotedPoints", "clear", "()V"⟩ : MethodName) prog_16_method_4_code 2 none :: ws) ({ frames := 0, cells := 0, slots := 0, locals := 0 } : Room)) (fun a U => a = #[(.ref ao)] ∧ Z.Warmed39 U.vm ∧ U.heap = h0) (fun _ _ _ _ _ => True) (fun _ U o U' => ∃ v L, o = .returned v ∧ Q6 Z ao ap an n xz xs h0 n0 v U'.heap L ∧ FrameEnd U o U' L ({ frames := 0, cells := 0, slots := 0, locals := 0 } : Room).cells ({ frames := 0, cells := 0, slots := 0, locals := 0 } : Room).slots) := by
  refine MetFree.of_bodySF (plainFor_of_name pn_0) hisR ?_
  intro p e s m args below meth c s₁ Bd hml0 hP hK
  obtain ⟨rfl, hZ, hh⟩ := hP
  have hx := Bd.exec
  have hby := Bd.bytes
  have hml : c.maxLocals = 2 := hml0
  have hown : s.vm.findClass "com/example/tempora/tempora/NotedPoints" = some m.cls := findClass_of_methodNamed Bd.named
  have hnm := (name_of_methodNamed Bd.named Bd.method).1
  have hlk : meth.locks = false := BodyLoose.notSynchronized Bd
  have X0 : Stand p l e ({ frames := 0, cells := 0, slots := 0, locals := 0 } : Room) s m #[(.ref ao)] below meth c s₁ [] 0 0 := Stand.of_body Bd
  have e0 : s₁.heap = h0 := by rw [← hh, Bd.state]; rfl
  have N0 := Fr.nil n0
  show W.Gl p e below s (Q6 Z ao ap an n xz xs h0 n0) ({ frames := 0, cells := 0, slots := 0, locals := 0 } : Room).cells ({ frames := 0, cells := 0, slots := 0, locals := 0 } : Room).slots s₁ (entryFrame m #[(.ref ao)] 2)
  refine W.cast (ef_6 m ao) ?_
  have K0 : Keep h0 h0 [ao, ap, an] := Keep.refl h0 [ao, ap, an]
  obtain ⟨pf, nf, ct, E1, F1, F2, F3, A1, A2, X1, h1, h2, h3, h4⟩ := H0
  refine W.s1 (mkF m 1 #[.val (.ref ao), .unset] [(.int (0 : Int32))]) (fun _ kx_ => XS.iconst X0.here hx rfl (hb hby d6_0) kx_) ?_
  refine W.s1 (mkF m 2 #[.val (.ref ao), .val (.int (0 : Int32))] []) (fun _ kx_ => XS.istoreN X0.here hx rfl (hb hby d6_1) rfl (l' := #[.val (.ref ao), .val (.int (0 : Int32))]) rfl kx_) ?_
  have hlen : ∀ {j : Nat}, j < xs.length → j < n := hlen0
  have loop : ∀ (q j : Nat) (i : Int32) (T : State) (h : Heap) (Lc : List Loc) (ng : Nat → Int32), q + j = xs.length → i.toInt = j → Stand p l e ({ frames := 0, cells := 0, slots := 0, locals := 0 } : Room) s m #[(.ref ao)] below meth c T Lc 0 0 → T.heap = h → Fr n0 Lc → n0 ≤ h.size → Keep h0 h [ao, ap, an] → Exa Z h ao "com/example/tempora/tempora/NotedPoints" → Fld Z h ao "com/example/tempora/tempora/NotedPoints" "points" "[I" (.ref ap) → Fld Z h ao "com/example/tempora/tempora/NotedPoints" "noted" "[Z" (.ref an) → Fld Z h ao "com/example/tempora/tempora/NotedPoints" "count" "I" (.int ct) → W.AI Z h ap .int n pf → W.AI Z h an .boolean n ng → Exa Z h ap "[I" → (∀ k, k < n → ¬ ng k = 0 → Int32.ofNat k ∈ xs.drop j) → W.Gl p e below s (Q6 Z ao ap an n xz xs h0 n0) ({ frames := 0, cells := 0, slots := 0, locals := 0 } : Room).cells ({ frames := 0, cells := 0, slots := 0, locals := 0 } : Room).slots T (mkF m 2 #[.val (.ref ao), .val (.int i)] []) := by
    intro q
    induction q with
    | zero =>
      intro j i T h Lc ng hq hi X e1 N Zh K E1 F1 F2 F3 A1 A2 X1 hg
      refine W.s1 (mkF m 3 #[.val (.ref ao), .val (.int i)] [(.int i)]) (fun _ kx_ => XS.iloadN X.here hx rfl (hb hby d6_2) rfl kx_) ?_
      refine W.s1 (mkF m 4 #[.val (.ref ao), .val (.int i)] [(.ref ao), (.int i)]) (fun _ kx_ => XS.aloadN X.here hx rfl (hb hby d6_3) rfl rfl kx_) ?_
      refine W.getf X hx hZ hown (host := "") (Or.inl (hw _ (List.mem_of_getElem? (i := 21) rfl))) Via.refl e1 F3 (hb hby d6_4) (pc' := 7) rfl (fun T101 X101 e101 => ?_)
      refine W.icmp X101 hx (hb hby d6_7) (pc' := 28) (pc'' := 10) (by decide) (by decide) rfl (fun (c7 : ¬ i < ct) => ?_) (fun (c7 : i < ct) => ?_)
      · refine W.s1 (mkF m 29 #[.val (.ref ao), .val (.int i)] [(.ref ao)]) (fun _ kx_ => XS.aloadN X101.here hx rfl (hb hby d6_28) rfl rfl kx_) ?_
        refine W.s1 (mkF m 30 #[.val (.ref ao), .val (.int i)] [(.int (0 : Int32)), (.ref ao)]) (fun _ kx_ => XS.iconst X101.here hx rfl (hb hby d6_29) kx_) ?_
        refine W.putf X101 hx hZ hown (host := "") (Or.inl (hw _ (List.mem_of_getElem? (i := 21) rfl))) Via.refl e101 F3 E1 (Or.inl (hw _ (List.mem_of_getElem? (i := 22) rfl))) (hw _ (List.mem_of_getElem? (i := 2) rfl)) (ty := .int) (by decide) rfl rfl N g1 (hb hby d6_30) (pc' := 33) rfl (fun T102 h102 L102 X102 e102 W102 fw102 N102 => ?_)
        have Z102 : n0 ≤ h102.size := Nat.le_trans Zh (Keep.of_wr W102).1
        have f103 := E1.wr W102
        have f104 := F1.other W102 (Or.inr (slot_ne (Or.inr (hw _ (List.mem_of_getElem? (i := 12) rfl))) (Or.inl (hw _ (List.mem_of_getElem? (i := 22) rfl))) (by decide) (t := (.array .int)) (t' := .int) (by decide) (by decide)))
        have f105 := F2.other W102 (Or.inr (slot_ne (Or.inr (hw _ (List.mem_of_getElem? (i := 15) rfl))) (Or.inl (hw _ (List.mem_of_getElem? (i := 22) rfl))) (by decide) (t := (.array .boolean)) (t' := .int) (by decide) (by decide)))
        have f106 := A1.other W102 (Ne.symm ne1)
        have f107 := A2.other W102 (Ne.symm ne2)
        have f108 := X1.wr W102
        have K102 : Keep h0 h102 [ao, ap, an] := K.wr W102 (Or.inl (List.mem_of_getElem? (i := 0) rfl))
        exact W.ret0 X102 hx hlk Bd.returns (hb hby d6_33) (by show Q6 Z ao ap an n xz xs h0 n0 _ T102.heap _; rw [e102]; exact ⟨rfl, N102, K102, ⟨_, _, _, f103, f104, f105, fw102, f106, f107, f108, rfl, fun i hi => absurd hi (Nat.not_lt_zero i), fun k hk => by rw [if_neg List.not_mem_nil]; by_cases z : ng k = 0; exact z; exact absurd (hg k hk z) (by rw [show j = xs.length by omega, List.drop_length]; exact List.not_mem_nil), fun x hx => absurd hx List.not_mem_nil⟩⟩) (by decide) (by decide)
      · exact absurd c7 (by rw [Int32.lt_iff_toInt_lt]; omega)
    | succ q ih =>
      intro j i T h Lc ng hq hi X e1 N Zh K E1 F1 F2 F3 A1 A2 X1 hg
      refine W.s1 (mkF m 3 #[.val (.ref ao), .val (.int i)] [(.int i)]) (fun _ kx_ => XS.iloadN X.here hx rfl (hb hby d6_2) rfl kx_) ?_
      refine W.s1 (mkF m 4 #[.val (.ref ao), .val (.int i)] [(.ref ao), (.int i)]) (fun _ kx_ => XS.aloadN X.here hx rfl (hb hby d6_3) rfl rfl kx_) ?_
      refine W.getf X hx hZ hown (host := "") (Or.inl (hw _ (List.mem_of_getElem? (i := 21) rfl))) Via.refl e1 F3 (hb hby d6_4) (pc' := 7) rfl (fun T109 X109 e109 => ?_)
      refine W.icmp X109 hx (hb hby d6_7) (pc' := 28) (pc'' := 10) (by decide) (by decide) rfl (fun (c7 : ¬ i < ct) => ?_) (fun (c7 : i < ct) => ?_)
      · exact absurd c7 (by rw [Int32.lt_iff_toInt_lt]; omega)
      · refine W.s1 (mkF m 11 #[.val (.ref ao), .val (.int i)] [(.ref ao)]) (fun _ kx_ => XS.aloadN X109.here hx rfl (hb hby d6_10) rfl rfl kx_) ?_
        refine W.getf X109 hx hZ hown (host := "") (Or.inl (hw _ (List.mem_of_getElem? (i := 14) rfl))) Via.refl e109 F2 (hb hby d6_11) (pc' := 14) rfl (fun T110 X110 e110 => ?_)
        refine W.s1 (mkF m 15 #[.val (.ref ao), .val (.int i)] [(.ref ao), (.ref an)]) (fun _ kx_ => XS.aloadN X110.here hx rfl (hb hby d6_14) rfl rfl kx_) ?_
        refine W.getf X110 hx hZ hown (host := "") (Or.inl (hw _ (List.mem_of_getElem? (i := 11) rfl))) Via.refl e110 F1 (hb hby d6_15) (pc' := 18) rfl (fun T111 X111 e111 => ?_)
        refine W.s1 (mkF m 19 #[.val (.ref ao), .val (.int i)] [(.int i), (.ref ap), (.ref an)]) (fun _ kx_ => XS.iloadN X111.here hx rfl (hb hby d6_18) rfl kx_) ?_
        have hjl : j < xs.length := by omega
        obtain ⟨kx, hkx, hkxn⟩ : ∃ k : Nat, (pf j).toInt = k ∧ k < n := by rw [h2 j hjl]; exact h4 _ (own_gm hjl)
        refine W.ldi X111 hx hZ e111 A1 j hi (by rw [Int32.lt_iff_toInt_lt] at c7; exact hlen hjl) (hb hby d6_19) (pc' := 20) rfl ?_
        refine W.s1 (mkF m 21 #[.val (.ref ao), .val (.int i)] [(.int (0 : Int32)), (.int (pf j)), (.ref an)]) (fun _ kx_ => XS.iconst X111.here hx rfl (hb hby d6_20) kx_) ?_
        refine W.stz X111 hx hZ e111 A2 (x' := (0 : Int32)) rfl kx hkx hkxn N g3 (hb hby d6_21) (pc' := 22) rfl (fun T112 h112 L112 X112 e112 W112 fw112 N112 => ?_)
        have Z112 : n0 ≤ h112.size := Nat.le_trans Zh (Keep.of_wr W112).1
        have f113 := E1.wr W112
        have f114 := F1.other W112 (Or.inl ne2)
        have f115 := F2.other W112 (Or.inl ne2)
        have f116 := F3.other W112 (Or.inl ne2)
        have f117 := A1.other W112 ne3
        have f118 := X1.wr W112
        have K112 : Keep h0 h112 [ao, ap, an] := K.wr W112 (Or.inl (List.mem_of_getElem? (i := 2) rfl))
        refine W.s1 (mkF m 25 #[.val (.ref ao), .val (.int (i + (1 : Int32)))] []) (fun _ kx_ => XS.iinc X112.here hx rfl (hb hby d6_22) rfl (l' := #[.val (.ref ao), .val (.int (i + (1 : Int32)))]) rfl kx_) ?_
        refine W.s1 (mkF m 2 #[.val (.ref ao), .val (.int (i + (1 : Int32)))] []) (fun _ kx_ => XS.goto X112.here hx rfl (pc0 := 25) (pc' := 2) rfl (hb hby d6_25) (by decide) (by decide) kx_) ?_
        have hi' : (i + (1 : Int32)).toInt = ((j + 1 : Nat) : Int) := by have := c_iadd i 1; have := rng32 (i + (1 : Int32)); have := rng32 ct; have e1 : (1 : Int32).toInt = 1 := rfl; omega
        exact ih (j + 1) _ _ _ _ _ (by omega) hi' X112 e112 N112 Z112 K112 f113 f114 f115 f116 f117 fw112 f118 (fun k hk hne => by
          by_cases ek : k = kx
          · rw [ek, W.up_same] at hne; exact absurd rfl hne
          · rw [W.up_other _ _ ek] at hne; have hm := hg k hk hne; rw [own_drop hjl] at hm
            rcases List.mem_cons.mp hm with z | z
            · exact absurd (by have e2 : (Int32.ofNat k).toInt = k := Int32.toInt_ofNat_small (by omega); rw [z, ← h2 j hjl, hkx] at e2; omega) ek
            · exact z)
  exact loop xs.length 0 _ _ _ _ _ (by omega) rfl X0 e0 N0 Z0 K0 E1 F1 F2 F3 A1 A2 X1 (fun k hk hne => by rw [h3 k hk] at hne; by_cases hm : Int32.ofNat k ∈ xs; exact hm; rw [if_neg hm] at hne; exact absurd rfl hne)
theorem ef_8 (m : MethodId) (x0 : Int32) (x1 : Int32) : entryFrame m #[(.int x0), (.int x1)] 2 = mkF m 0 #[.val (.int x0), .val (.int x1)] [] := by first | (simp [entryFrame, mkF, argsToLocals, Value.category]; done) | rfl
theorem d8_0 : decode jdk_29_method_69_code 0 = .ok (.iload_n 0, 1) := by decide +kernel
theorem d8_1 : decode jdk_29_method_69_code 1 = .ok (.iload_n 1, 1) := by decide +kernel
theorem d8_2 : decode jdk_29_method_69_code 2 = .ok (.if_icmp .gt 7, 3) := by decide +kernel
theorem d8_9 : decode jdk_29_method_69_code 9 = .ok (.iload_n 1, 1) := by decide +kernel
theorem d8_10 : decode jdk_29_method_69_code 10 = .ok (.ireturn, 1) := by decide +kernel
theorem d8_5 : decode jdk_29_method_69_code 5 = .ok (.iload_n 0, 1) := by decide +kernel
theorem d8_6 : decode jdk_29_method_69_code 6 = .ok (.goto 4, 3) := by decide +kernel
def Q8 (Z : State) (xa : Int32) (xb : Int32) (h0 : Heap) (n0 : Nat) (v : Option Value) (h : Heap) (L : List Loc) : Prop := ∃ r : Int32, v = some (.int r) ∧ Fr n0 L ∧ h = h0 ∧ ((r = xa ∧ ¬ xb < xa) ∨ (r = xb ∧ xb < xa))
set_option maxRecDepth 65536 in
set_option maxHeartbeats 40000000 in
theorem rm8 (l : Launch) (Z : State) (a0 : Array Value) (hw : ∀ d ∈ tables_1, d.before a0 Z = true) (ws : List Jvm.Cond) (xa : Int32) (xb : Int32) (h0 : Heap) (n0 : Nat) (Z0 : n0 ≤ h0.size) :
    MetFree l (⟨"java/lang/Math", "min", "(II)I"⟩ : MethodName) (head1 (Jvm.Cond.code (⟨"java/lang/Math", "min", "(II)I"⟩ : MethodName) jdk_29_method_69_code 2 (some .int) :: ws) ({ frames := 0, cells := 0, slots := 0, locals := 0 } : Room)) (fun a U => a = #[(.int xa), (.int xb)] ∧ Z.Warmed39 U.vm ∧ U.heap = h0) (fun _ _ _ _ _ => True) (fun _ U o U' => ∃ v L, o = .returned v ∧ Q8 Z xa xb h0 n0 v U'.heap L ∧ FrameEnd U o U' L ({ frames := 0, cells := 0, slots := 0, locals := 0 } : Room).cells ({ frames := 0, cells := 0, slots := 0, locals := 0 } : Room).slots) := by
  refine MetFree.of_bodySF (Jvm.Free.JP.mathPlain rfl (by decide +kernel)) hisR ?_
  intro p e s m args below meth c s₁ Bd hml0 hP hK
  obtain ⟨rfl, hZ, hh⟩ := hP
  have hx := Bd.exec
  have hby := Bd.bytes
  have hml : c.maxLocals = 2 := hml0
  have hown : s.vm.findClass "java/lang/Math" = some m.cls := findClass_of_methodNamed Bd.named
  have hnm := (name_of_methodNamed Bd.named Bd.method).1
  have hlk : meth.locks = false := BodyLoose.notSynchronized Bd
  have X0 : Stand p l e ({ frames := 0, cells := 0, slots := 0, locals := 0 } : Room) s m #[(.int xa), (.int xb)] below meth c s₁ [] 0 0 := Stand.of_body Bd
  have e0 : s₁.heap = h0 := by rw [← hh, Bd.state]; rfl
  have N0 := Fr.nil n0
  show W.Gl p e below s (Q8 Z xa xb h0 n0) ({ frames := 0, cells := 0, slots := 0, locals := 0 } : Room).cells ({ frames := 0, cells := 0, slots := 0, locals := 0 } : Room).slots s₁ (entryFrame m #[(.int xa), (.int xb)] 2)
  refine W.cast (ef_8 m xa xb) ?_
  refine W.s1 (mkF m 1 #[.val (.int xa), .val (.int xb)] [(.int xa)]) (fun _ kx_ => XS.iloadN X0.here hx rfl (hb hby d8_0) rfl kx_) ?_
  refine W.s1 (mkF m 2 #[.val (.int xa), .val (.int xb)] [(.int xb), (.int xa)]) (fun _ kx_ => XS.iloadN X0.here hx rfl (hb hby d8_1) rfl kx_) ?_
  refine W.icmp X0 hx (hb hby d8_2) (pc' := 9) (pc'' := 5) (by decide) (by decide) rfl (fun (c2 : xb < xa) => ?_) (fun (c2 : ¬ xb < xa) => ?_)
  · refine W.s1 (mkF m 10 #[.val (.int xa), .val (.int xb)] [(.int xb)]) (fun _ kx_ => XS.iloadN X0.here hx rfl (hb hby d8_9) rfl kx_) ?_
    exact W.retI X0 hx hlk Bd.returns (hb hby d8_10) (by show Q8 Z xa xb h0 n0 _ s₁.heap _; rw [e0]; exact ⟨_, rfl, N0, rfl, Or.inr ⟨rfl, c2⟩⟩) (by decide) (by decide)
  · refine W.s1 (mkF m 6 #[.val (.int xa), .val (.int xb)] [(.int xa)]) (fun _ kx_ => XS.iloadN X0.here hx rfl (hb hby d8_5) rfl kx_) ?_
    refine W.s1 (mkF m 10 #[.val (.int xa), .val (.int xb)] [(.int xa)]) (fun _ kx_ => XS.goto X0.here hx rfl (pc0 := 6) (pc' := 10) rfl (hb hby d8_6) (by decide) (by decide) kx_) ?_
    exact W.retI X0 hx hlk Bd.returns (hb hby d8_10) (by show Q8 Z xa xb h0 n0 _ s₁.heap _; rw [e0]; exact ⟨_, rfl, N0, rfl, Or.inl ⟨rfl, c2⟩⟩) (by decide) (by decide)
theorem pn_1 : plainName "java/util/Arrays" = true := by first | (simp [plainName, overriddenIn]; done) | decide +kernel
theorem ef_5 (m : MethodId) (x0 : Addr) (x1 : Int32) : entryFrame m #[(.ref x0), (.int x1)] 3 = mkF m 0 #[.val (.ref x0), .val (.int x1), .unset] [] := by first | (simp [entryFrame, mkF, argsToLocals, Value.category]; done) | rfl
theorem d5_0 : decode jdk_65_method_123_code 0 = .ok (.iload_n 1, 1) := by decide +kernel
theorem d5_1 : decode jdk_65_method_123_code 1 = .ok (.aload_n 0, 1) := by decide +kernel
theorem d5_2 : decode jdk_65_method_123_code 2 = .ok (.arraylength, 1) := by decide +kernel
theorem d5_3 : decode jdk_65_method_123_code 3 = .ok (.if_icmp .ne 11, 3) := by decide +kernel
theorem d5_14 : decode jdk_65_method_123_code 14 = .ok (.iload_n 1, 1) := by decide +kernel
theorem d5_15 : decode jdk_65_method_123_code 15 = .ok (.newarray .int, 2) := by decide +kernel
theorem d5_17 : decode jdk_65_method_123_code 17 = .ok (.astore_n 2, 1) := by decide +kernel
theorem d5_18 : decode jdk_65_method_123_code 18 = .ok (.aload_n 0, 1) := by decide +kernel
theorem d5_19 : decode jdk_65_method_123_code 19 = .ok (.iconst 0, 1) := by decide +kernel
theorem d5_20 : decode jdk_65_method_123_code 20 = .ok (.aload_n 2, 1) := by decide +kernel
theorem d5_21 : decode jdk_65_method_123_code 21 = .ok (.iconst 0, 1) := by decide +kernel
theorem d5_22 : decode jdk_65_method_123_code 22 = .ok (.aload_n 0, 1) := by decide +kernel
theorem d5_23 : decode jdk_65_method_123_code 23 = .ok (.arraylength, 1) := by decide +kernel
theorem d5_24 : decode jdk_65_method_123_code 24 = .ok (.iload_n 1, 1) := by decide +kernel
theorem d5_25 : decode jdk_65_method_123_code 25 = .ok (.invokestatic 304, 3) := by decide +kernel
theorem pd_0 : parseMethodDescriptor "(II)I" = some ⟨[.int, .int], some .int⟩ := by decide +kernel
theorem d5_28 : decode jdk_65_method_123_code 28 = .ok (.invokestatic 150, 3) := by decide +kernel
theorem d5_31 : decode jdk_65_method_123_code 31 = .ok (.aload_n 2, 1) := by decide +kernel
theorem d5_32 : decode jdk_65_method_123_code 32 = .ok (.areturn, 1) := by decide +kernel
theorem d5_6 : decode jdk_65_method_123_code 6 = .ok (.aload_n 0, 1) := by decide +kernel
theorem d5_7 : decode jdk_65_method_123_code 7 = .ok (.invokevirtual 316, 3) := by decide +kernel
theorem d5_10 : decode jdk_65_method_123_code 10 = .ok (.checkcast 317, 3) := by decide +kernel
theorem d5_13 : decode jdk_65_method_123_code 13 = .ok (.areturn, 1) := by decide +kernel
def Q5 (Z : State) (ao : Addr) (xl : Int32) (n : Nat) (k : Nat) (xz : Int32) (f : Nat → Int32) (h0 : Heap) (n0 : Nat) (v : Option Value) (h : Heap) (L : List Loc) : Prop := ∃ b : Addr, v = some (.ref b) ∧ Fr n0 L ∧ Keep h0 h [] ∧ h0.size ≤ b ∧ W.AI Z h b .int k f
set_option maxRecDepth 65536 in
set_option maxHeartbeats 40000000 in
theorem rm5 (l : Launch) (Z : State) (a0 : Array Value) (hw : ∀ d ∈ tables_1, d.before a0 Z = true) (ws : List Jvm.Cond) (ao : Addr) (xl : Int32) (n : Nat) (k : Nat) (xz : Int32) (f : Nat → Int32) (h0 : Heap) (n0 : Nat) (Z0 : n0 ≤ h0.size) (hz : xz.toInt = n) (hl : xl.toInt = k) (hkn : k ≤ n) (hc : n ≤ 8) (A0 : W.AI Z h0 ao .int n f) (E0 : Exa Z h0 ao "[I") :
    MetFree l (⟨"java/util/Arrays", "copyOf", "([II)[I"⟩ : MethodName) (head1 (Jvm.Cond.code (⟨"java/util/Arrays", "copyOf", "([II)[I"⟩ : MethodName) jdk_65_method_123_code 3 (some (.array .int)) :: ws) ({ frames := 1, cells := 1, slots := 8, locals := 18 } : Room)) (fun a U => a = #[(.ref ao), (.int xl)] ∧ Z.Warmed39 U.vm ∧ U.heap = h0) (fun _ _ _ _ _ => True) (fun _ U o U' => ∃ v L, o = .returned v ∧ Q5 Z ao xl n k xz f h0 n0 v U'.heap L ∧ FrameEnd U o U' L ({ frames := 1, cells := 1, slots := 8, locals := 18 } : Room).cells ({ frames := 1, cells := 1, slots := 8, locals := 18 } : Room).slots) := by
  refine MetFree.of_bodySF (plainFor_of_name pn_1) hisR ?_
  intro p e s m args below meth c s₁ Bd hml0 hP hK
  obtain ⟨rfl, hZ, hh⟩ := hP
  have hx := Bd.exec
  have hby := Bd.bytes
  have hml : c.maxLocals = 3 := hml0
  have hown : s.vm.findClass "java/util/Arrays" = some m.cls := findClass_of_methodNamed Bd.named
  have hnm := (name_of_methodNamed Bd.named Bd.method).1
  have hlk : meth.locks = false := BodyLoose.notSynchronized Bd
  have X0 : Stand p l e ({ frames := 1, cells := 1, slots := 8, locals := 18 } : Room) s m #[(.ref ao), (.int xl)] below meth c s₁ [] 0 0 := Stand.of_body Bd
  have e0 : s₁.heap = h0 := by rw [← hh, Bd.state]; rfl
  have N0 := Fr.nil n0
  show W.Gl p e below s (Q5 Z ao xl n k xz f h0 n0) ({ frames := 1, cells := 1, slots := 8, locals := 18 } : Room).cells ({ frames := 1, cells := 1, slots := 8, locals := 18 } : Room).slots s₁ (entryFrame m #[(.ref ao), (.int xl)] 3)
  refine W.cast (ef_5 m ao xl) ?_
  have K0 : Keep h0 h0 [] := Keep.refl h0 []
  refine W.s1 (mkF m 1 #[.val (.ref ao), .val (.int xl), .unset] [(.int xl)]) (fun _ kx_ => XS.iloadN X0.here hx rfl (hb hby d5_0) rfl kx_) ?_
  refine W.s1 (mkF m 2 #[.val (.ref ao), .val (.int xl), .unset] [(.ref ao), (.int xl)]) (fun _ kx_ => XS.aloadN X0.here hx rfl (hb hby d5_1) rfl rfl kx_) ?_
  refine W.alen X0 hx hZ e0 A0 (z := xz) hz (hb hby d5_2) (pc' := 3) rfl ?_
  refine W.icmp X0 hx (hb hby d5_3) (pc' := 14) (pc'' := 6) (by decide) (by decide) rfl (fun (c3 : ¬ xl = xz) => ?_) (fun (c3 : xl = xz) => ?_)
  · refine W.s1 (mkF m 15 #[.val (.ref ao), .val (.int xl), .unset] [(.int xl)]) (fun _ kx_ => XS.iloadN X0.here hx rfl (hb hby d5_14) rfl kx_) ?_
    refine W.newi X0 hx hZ (ty := .int) (aty := .int) (hw _ (List.mem_of_getElem? (i := 10) rfl)) rfl rfl e0 (hb hby d5_15) (n := k) hl (cap := 8) (by omega) (by decide) (by decide) (by decide) (pc' := 17) rfl (fun T101 h101 ab X101 e101 E101 g101 A101 => ?_)
    have ne102 : ao ≠ ab := Nat.ne_of_lt (Nat.lt_of_lt_of_le A0.lt (Nat.le_of_eq g101.symm))
    have ge101 : n0 ≤ ab := Nat.le_trans Z0 (Nat.le_of_eq g101.symm)
    have sz101 : h0.size ≤ ab := Nat.le_trans K0.1 (Nat.le_of_eq g101.symm)
    have Z101 : n0 ≤ h101.size := Nat.le_trans Z0 E101.1
    have K101 : Keep h0 h101 [] := K0.ext E101
    have f103 := A0.ext E101
    have f104 := E0.ext E101
    refine W.s1 (mkF m 18 #[.val (.ref ao), .val (.int xl), .val (.ref ab)] []) (fun _ kx_ => XS.astoreN X101.here hx rfl (hb hby d5_17) rfl rfl (l' := #[.val (.ref ao), .val (.int xl), .val (.ref ab)]) rfl kx_) ?_
    refine W.s1 (mkF m 19 #[.val (.ref ao), .val (.int xl), .val (.ref ab)] [(.ref ao)]) (fun _ kx_ => XS.aloadN X101.here hx rfl (hb hby d5_18) rfl rfl kx_) ?_
    refine W.s1 (mkF m 20 #[.val (.ref ao), .val (.int xl), .val (.ref ab)] [(.int (0 : Int32)), (.ref ao)]) (fun _ kx_ => XS.iconst X101.here hx rfl (hb hby d5_19) kx_) ?_
    refine W.s1 (mkF m 21 #[.val (.ref ao), .val (.int xl), .val (.ref ab)] [(.ref ab), (.int (0 : Int32)), (.ref ao)]) (fun _ kx_ => XS.aloadN X101.here hx rfl (hb hby d5_20) rfl rfl kx_) ?_
    refine W.s1 (mkF m 22 #[.val (.ref ao), .val (.int xl), .val (.ref ab)] [(.int (0 : Int32)), (.ref ab), (.int (0 : Int32)), (.ref ao)]) (fun _ kx_ => XS.iconst X101.here hx rfl (hb hby d5_21) kx_) ?_
    refine W.s1 (mkF m 23 #[.val (.ref ao), .val (.int xl), .val (.ref ab)] [(.ref ao), (.int (0 : Int32)), (.ref ab), (.int (0 : Int32)), (.ref ao)]) (fun _ kx_ => XS.aloadN X101.here hx rfl (hb hby d5_22) rfl rfl kx_) ?_
    refine W.alen X101 hx hZ e101 f103 (z := xz) hz (hb hby d5_23) (pc' := 24) rfl ?_
    refine W.s1 (mkF m 25 #[.val (.ref ao), .val (.int xl), .val (.ref ab)] [(.int xl), (.int xz), (.int (0 : Int32)), (.ref ab), (.int (0 : Int32)), (.ref ao)]) (fun _ kx_ => XS.iloadN X101.here hx rfl (hb hby d5_24) rfl kx_) ?_
    obtain ⟨_, _, ⟨T105, L105, k105, n105⟩, -, X105, ⟨Lc105, hQ105, l105, y105, z105⟩, st105⟩ := Jvm.LawKit.callS X101 hx (y := (⟨"java/lang/Math", "min", "(II)I"⟩ : MethodName)) hown (mvT hZ (hw _ (List.mem_of_getElem? (i := 50) rfl))) (mvT hZ (hw _ (List.mem_of_getElem? (i := 51) rfl))) (mvT hZ (hw _ (List.mem_of_getElem? (i := 52) rfl))) (mvT hZ (hw _ (List.mem_of_getElem? (i := 53) rfl))) (by decide) (backOf (W := 4) (rm8 l Z a0 hw [] xz xl h101 n0 Z101 ) hZ (hw _ (List.mem_of_getElem? (i := 53) rfl)) (hw _ (List.mem_of_getElem? (i := 52) rfl)) (by decide) (by decide)) (g := (mkF m 25 #[.val (.ref ao), .val (.int xl), .val (.ref ab)] [(.int xl), (.int xz), (.int (0 : Int32)), (.ref ab), (.int (0 : Int32)), (.ref ao)])) rfl (by rw [hml]; rfl) (argsL := [(.int xz), (.int xl)]) (rest := [(.int (0 : Int32)), (.ref ab), (.int (0 : Int32)), (.ref ao)]) (lenOf pd_0 rfl) rfl (by show 2 * 0 + _ ≤ _; exact Nat.le_of_eq rfl) (hb hby d5_25) (fun _ _ => ⟨rfl, e101, (by decide : 1 + 0 ≤ _), (by decide : 8 + 0 ≤ _)⟩)
    dsimp only [Pt.U, Pt.locs, Pt.cells, Pt.slots] at X105 l105 y105 z105 st105 hQ105
    subst l105 y105 z105
    obtain ⟨xr, rfl, Nq105, eq105, hxr⟩ := hQ105
    have N105 := Fr.app N0 Nq105
    have hr : xr.toInt = k := by rcases hxr with ⟨rfl, q⟩ | ⟨rfl, q⟩; rw [Int32.lt_iff_toInt_lt] at q; omega; exact hl
    refine W.s2 (mkF m 28 #[.val (.ref ao), .val (.int xl), .val (.ref ab)] [(.int xr), (.int (0 : Int32)), (.ref ab), (.int (0 : Int32)), (.ref ao)]) st105 ?_
    refine W.cpi X105 hx hZ hown (hw _ (List.mem_of_getElem? (i := 54) rfl)) (hw _ (List.mem_of_getElem? (i := 57) rfl)) (hw _ (List.mem_of_getElem? (i := 55) rfl)) (hw _ (List.mem_of_getElem? (i := 56) rfl)) eq105 (k := k) (z := xz) (z' := xl) f103 hz A101 hl hr hkn (Nat.le_refl _) N105 ge101 (by rw [hml]; rfl) (hb hby d5_28) (by decide) (Wd := 0) (by decide) (by decide) (pc' := 31) rfl (fun T106 h106 L106 X106 e106 N106 Kq106 A106 => ?_)
    have Z106 : n0 ≤ h106.size := Nat.le_trans Z101 Kq106.1
    have K106 : Keep h0 h106 [] := K101.trans Kq106 (allS (Or.inr sz101) all0)
    have f107 := f103.keep Kq106 (ninS ne102 nin0)
    have f108 := f104.keep Kq106
    refine W.s1 (mkF m 32 #[.val (.ref ao), .val (.int xl), .val (.ref ab)] [(.ref ab)]) (fun _ kx_ => XS.aloadN X106.here hx rfl (hb hby d5_31) rfl rfl kx_) ?_
    exact W.retA X106 hx hlk Bd.returns rfl rfl rfl (hb hby d5_32) (by show Q5 Z ao xl n k xz f h0 n0 _ T106.heap _; rw [e106]; exact ⟨_, rfl, N106, K106, sz101, A106.congr fun i hi => (if_pos hi).symm⟩) (by decide) (by decide)
  · refine W.s1 (mkF m 7 #[.val (.ref ao), .val (.int xl), .unset] [(.ref ao)]) (fun _ kx_ => XS.aloadN X0.here hx rfl (hb hby d5_6) rfl rfl kx_) ?_
    refine W.clonei X0 hx hZ hown (hw _ (List.mem_of_getElem? (i := 32) rfl)) (hw _ (List.mem_of_getElem? (i := 33) rfl)) (hw _ (List.mem_of_getElem? (i := 37) rfl)) (hw _ (List.mem_of_getElem? (i := 35) rfl)) (hw _ (List.mem_of_getElem? (i := 36) rfl)) (hw _ (List.mem_of_getElem? (i := 38) rfl)) e0 A0 E0 (by rw [hml]; rfl) (hb hby d5_7) (by decide) (Wd := 0) (cap := 8) (by decide) (by decide) hc (by decide) (by decide) (pc' := 10) rfl (fun T110 h110 b110 X110 e110 E110 g110 A110 Ex110 => ?_)
    have ne111 : ao ≠ b110 := Nat.ne_of_lt (Nat.lt_of_lt_of_le A0.lt (Nat.le_of_eq g110.symm))
    have ge110 : n0 ≤ b110 := Nat.le_trans Z0 (Nat.le_of_eq g110.symm)
    have sz110 : h0.size ≤ b110 := Nat.le_trans K0.1 (Nat.le_of_eq g110.symm)
    have Z110 : n0 ≤ h110.size := Nat.le_trans Z0 E110.1
    have K110 : Keep h0 h110 [] := K0.ext E110
    have f112 := A0.ext E110
    have f113 := E0.ext E110
    refine W.castc X110 hx hZ hown (hw _ (List.mem_of_getElem? (i := 39) rfl)) e110 (Ins.self Ex110) (hb hby d5_10) (pc' := 13) rfl (fun T114 X114 e114 => ?_)
    exact W.retA X114 hx hlk Bd.returns rfl rfl rfl (hb hby d5_13) (by show Q5 Z ao xl n k xz f h0 n0 _ T114.heap _; rw [e114]; exact ⟨_, rfl, N0, K110, sz110, by obtain rfl : k = n := (by rw [c3] at hl; omega); exact A110⟩) (by decide) (by decide)
theorem ef_4 (m : MethodId) (x0 : Addr) : entryFrame m #[(.ref x0)] 2 = mkF m 0 #[.val (.ref x0), .unset] [] := by first | (simp [entryFrame, mkF, argsToLocals, Value.category]; done) | rfl
theorem d4_0 : decode prog_16_method_3_code 0 = .ok (.aload_n 0, 1) := by decide +kernel
theorem d4_1 : decode prog_16_method_3_code 1 = .ok (.getfield 7, 3) := by decide +kernel
theorem d4_4 : decode prog_16_method_3_code 4 = .ok (.aload_n 0, 1) := by decide +kernel
theorem d4_5 : decode prog_16_method_3_code 5 = .ok (.getfield 17, 3) := by decide +kernel
theorem d4_8 : decode prog_16_method_3_code 8 = .ok (.invokestatic 21, 3) := by decide +kernel
theorem pd_1 : parseMethodDescriptor "([II)[I" = some ⟨[(.array .int), .int], some (.array .int)⟩ := by decide +kernel
theorem d4_11 : decode prog_16_method_3_code 11 = .ok (.astore_n 1, 1) := by decide +kernel
theorem d4_12 : decode prog_16_method_3_code 12 = .ok (.aload_n 0, 1) := by decide +kernel
theorem d4_13 : decode prog_16_method_3_code 13 = .ok (.invokevirtual 27, 3) := by decide +kernel
theorem pd_2 : parseMethodDescriptor "()V" = some ⟨[], none⟩ := by decide +kernel
theorem d4_16 : decode prog_16_method_3_code 16 = .ok (.aload_n 1, 1) := by decide +kernel
theorem d4_17 : decode prog_16_method_3_code 17 = .ok (.areturn, 1) := by decide +kernel
def Q4 (Z : State) (ao : Addr) (ap : Addr) (an : Addr) (n : Nat) (xz : Int32) (xs : List Int32) (h0 : Heap) (n0 : Nat) (v : Option Value) (h : Heap) (L : List Loc) : Prop := ∃ b : Addr, v = some (.ref b) ∧ Fr n0 L ∧ Keep h0 h [ao, ap, an] ∧ h0.size ≤ b ∧ b < h.size ∧ W.AI Z h b .int xs.length (fun i => xs.getD i 0) ∧ own_NP Z h ao ap an n []
set_option maxRecDepth 65536 in
set_option maxHeartbeats 40000000 in
theorem rm4 (l : Launch) (Z : State) (a0 : Array Value) (hw : ∀ d ∈ tables_1, d.before a0 Z = true) (ws : List Jvm.Cond) (ao : Addr) (ap : Addr) (an : Addr) (n : Nat) (xz : Int32) (xs : List Int32) (h0 : Heap) (n0 : Nat) (Z0 : n0 ≤ h0.size) (hz : xz.toInt = n) (hn : n ≤ 8) (hxn : xs.length ≤ n) (H0 : own_NP Z h0 ao ap an n xs) (ne1 : ao ≠ ap) (ne2 : ao ≠ an) (ne3 : ap ≠ an) (g1 : n0 ≤ ao) (g2 : n0 ≤ ap) (g3 : n0 ≤ an) :
    MetFree l (⟨"com/example/tempora/tempora/NotedPoints", "take", "()[I"⟩ : MethodName) (head1 (Jvm.Cond.code (⟨"com/example/tempora/tempora/NotedPoints", "take", "()[I"⟩ : MethodName) prog_16_method_3_code 2 (some (.array .int)) :: ws) ({ frames := 2, cells := 1, slots := 8, locals := 32 } : Room)) (fun a U => a = #[(.ref ao)] ∧ Z.Warmed39 U.vm ∧ U.heap = h0) (fun _ _ _ _ _ => True) (fun _ U o U' => ∃ v L, o = .returned v ∧ Q4 Z ao ap an n xz xs h0 n0 v U'.heap L ∧ FrameEnd U o U' L ({ frames := 2, cells := 1, slots := 8, locals := 32 } : Room).cells ({ frames := 2, cells := 1, slots := 8, locals := 32 } : Room).slots) := by
  refine MetFree.of_bodySF (plainFor_of_name pn_0) hisR ?_
  intro p e s m args below meth c s₁ Bd hml0 hP hK
  obtain ⟨rfl, hZ, hh⟩ := hP
  have hx := Bd.exec
  have hby := Bd.bytes
  have hml : c.maxLocals = 2 := hml0
  have hown : s.vm.findClass "com/example/tempora/tempora/NotedPoints" = some m.cls := findClass_of_methodNamed Bd.named
  have hnm := (name_of_methodNamed Bd.named Bd.method).1
  have hlk : meth.locks = false := BodyLoose.notSynchronized Bd
  have X0 : Stand p l e ({ frames := 2, cells := 1, slots := 8, locals := 32 } : Room) s m #[(.ref ao)] below meth c s₁ [] 0 0 := Stand.of_body Bd
  have e0 : s₁.heap = h0 := by rw [← hh, Bd.state]; rfl
  have N0 := Fr.nil n0
  show W.Gl p e below s (Q4 Z ao ap an n xz xs h0 n0) ({ frames := 2, cells := 1, slots := 8, locals := 32 } : Room).cells ({ frames := 2, cells := 1, slots := 8, locals := 32 } : Room).slots s₁ (entryFrame m #[(.ref ao)] 2)
  refine W.cast (ef_4 m ao) ?_
  have K0 : Keep h0 h0 [ao, ap, an] := Keep.refl h0 [ao, ap, an]
  obtain ⟨pf, nf, ct, E1, F1, F2, F3, A1, A2, X1, h1, h2, h3, h4⟩ := H0
  refine W.s1 (mkF m 1 #[.val (.ref ao), .unset] [(.ref ao)]) (fun _ kx_ => XS.aloadN X0.here hx rfl (hb hby d4_0) rfl rfl kx_) ?_
  refine W.getf X0 hx hZ hown (host := "") (Or.inl (hw _ (List.mem_of_getElem? (i := 11) rfl))) Via.refl e0 F1 (hb hby d4_1) (pc' := 4) rfl (fun T101 X101 e101 => ?_)
  refine W.s1 (mkF m 5 #[.val (.ref ao), .unset] [(.ref ao), (.ref ap)]) (fun _ kx_ => XS.aloadN X101.here hx rfl (hb hby d4_4) rfl rfl kx_) ?_
  refine W.getf X101 hx hZ hown (host := "") (Or.inl (hw _ (List.mem_of_getElem? (i := 21) rfl))) Via.refl e101 F3 (hb hby d4_5) (pc' := 8) rfl (fun T102 X102 e102 => ?_)
  have Zo := Z0
  obtain ⟨_, _, ⟨T103, L103, k103, n103⟩, -, X103, ⟨Lc103, hQ103, l103, y103, z103⟩, st103⟩ := Jvm.LawKit.callS X102 hx (y := (⟨"java/util/Arrays", "copyOf", "([II)[I"⟩ : MethodName)) hown (mvT hZ (hw _ (List.mem_of_getElem? (i := 28) rfl))) (mvT hZ (hw _ (List.mem_of_getElem? (i := 29) rfl))) (mvT hZ (hw _ (List.mem_of_getElem? (i := 30) rfl))) (mvT hZ (hw _ (List.mem_of_getElem? (i := 31) rfl))) (by decide) (backOf (W := 0) (rm5 l Z a0 hw [] ap ct n xs.length xz pf h0 n0 Z0 hz h1 hxn hn A1 X1) hZ (hw _ (List.mem_of_getElem? (i := 31) rfl)) (hw _ (List.mem_of_getElem? (i := 30) rfl)) (by decide) (by decide)) (g := (mkF m 8 #[.val (.ref ao), .unset] [(.int ct), (.ref ap)])) rfl (by rw [hml]; rfl) (argsL := [(.ref ap), (.int ct)]) (rest := []) (lenOf pd_1 rfl) rfl (by show 2 * 0 + _ ≤ _; exact Nat.le_of_eq rfl) (hb hby d4_8) (fun _ _ => ⟨rfl, e102, (by decide : 0 + 1 ≤ _), (by decide : 0 + 8 ≤ _)⟩)
  dsimp only [Pt.U, Pt.locs, Pt.cells, Pt.slots] at X103 l103 y103 z103 st103 hQ103
  subst l103 y103 z103
  obtain ⟨h103, e103⟩ : ∃ z, T103.heap = z := ⟨_, rfl⟩
  rw [e103] at hQ103
  obtain ⟨ab, rfl, Nq103, Kq103, hge, A103⟩ := hQ103
  have N103 := Fr.app N0 Nq103
  have Z103 : n0 ≤ h103.size := Nat.le_trans Z0 Kq103.1
  have K103 : Keep h0 h103 [ao, ap, an] := K0.trans Kq103 all0
  have f104 := E1.keep Kq103
  have f105 := F1.keep Kq103 nin0
  have f106 := F2.keep Kq103 nin0
  have f107 := F3.keep Kq103 nin0
  have f108 := A1.keep Kq103 nin0
  have f109 := A2.keep Kq103 nin0
  have f110 := X1.keep Kq103
  have ne111 : ao ≠ ab := Nat.ne_of_lt (Nat.lt_of_lt_of_le E1.lt hge)
  have ne112 : ap ≠ ab := Nat.ne_of_lt (Nat.lt_of_lt_of_le A1.lt hge)
  have ne113 : an ≠ ab := Nat.ne_of_lt (Nat.lt_of_lt_of_le A2.lt hge)
  have ge114 : n0 ≤ ab := Nat.le_trans Zo hge
  refine W.s2 (mkF m 11 #[.val (.ref ao), .unset] [(.ref ab)]) st103 ?_
  have hge0 := hge
  refine W.s1 (mkF m 12 #[.val (.ref ao), .val (.ref ab)] []) (fun _ kx_ => XS.astoreN X103.here hx rfl (hb hby d4_11) rfl rfl (l' := #[.val (.ref ao), .val (.ref ab)]) rfl kx_) ?_
  refine W.s1 (mkF m 13 #[.val (.ref ao), .val (.ref ab)] [(.ref ao)]) (fun _ kx_ => XS.aloadN X103.here hx rfl (hb hby d4_12) rfl rfl kx_) ?_
  obtain ⟨cq115, kq115, q115a, q115b, q115c⟩ := isOf hZ e103 f104
  obtain ⟨_, _, ⟨T115, L115, k115, n115⟩, -, X115, ⟨Lc115, hQ115, l115, y115, z115⟩, st115⟩ := X103.virtualBack hx (y := (⟨"com/example/tempora/tempora/NotedPoints", "clear", "()V"⟩ : MethodName)) (z := (⟨"com/example/tempora/tempora/NotedPoints", "clear", "()V"⟩ : MethodName)) hown (mvT hZ (hw _ (List.mem_of_getElem? (i := 41) rfl))) (mvT hZ (hw _ (List.mem_of_getElem? (i := 42) rfl))) (notFace_of_selects (args := #[]) (mvT hZ (hw _ (List.mem_of_getElem? (i := 44) rfl)))) (mvT hZ (hw _ (List.mem_of_getElem? (i := 44) rfl))) (mvT hZ (hw _ (List.mem_of_getElem? (i := 43) rfl))) (by decide) (backOf (W := 0) (rm6 l Z a0 hw [] ao ap an n xz xs h103 n0 Z103 hz (by omega) ⟨_, _, _, f104, f105, f106, f107, f108, f109, f110, h1, h2, h3, h4⟩ ne1 ne2 ne3 g1 g2 g3 (fun q => by omega)) hZ (hw _ (List.mem_of_getElem? (i := 45) rfl)) (hw _ (List.mem_of_getElem? (i := 3) rfl)) (by decide) (by decide)) q115a q115c (g := (mkF m 13 #[.val (.ref ao), .val (.ref ab)] [(.ref ao)])) rfl (by rw [hml]; rfl) (Steps.refl _) (argsL := []) (rest := []) (lenOf pd_2 rfl) rfl (by show 2 * 0 + _ ≤ _; exact Nat.le_of_eq rfl) (hb hby d4_13) (fun _ _ => ⟨rfl, e103, (by decide : 1 + 0 ≤ _), (by decide : 8 + 0 ≤ _)⟩)
  dsimp only [Pt.U, Pt.locs, Pt.cells, Pt.slots] at X115 l115 y115 z115 st115 hQ115
  subst l115 y115 z115
  obtain ⟨h115, e115⟩ : ∃ z, T115.heap = z := ⟨_, rfl⟩
  rw [e115] at hQ115
  obtain ⟨rfl, Nq115, Kq115, Hn⟩ := hQ115
  have N115 := Fr.app N103 Nq115
  have Z115 : n0 ≤ h115.size := Nat.le_trans Z103 Kq115.1
  have K115 : Keep h0 h115 [ao, ap, an] := K103.trans Kq115 (allS (Or.inl (List.mem_of_getElem? (i := 0) rfl)) (allS (Or.inl (List.mem_of_getElem? (i := 1) rfl)) (allS (Or.inl (List.mem_of_getElem? (i := 2) rfl)) all0)))
  have f116 := f104.keep Kq115
  have f122 := f110.keep Kq115
  have f123 := A103.keep Kq115 (ninS (Ne.symm ne111) (ninS (Ne.symm ne112) (ninS (Ne.symm ne113) nin0)))
  refine W.s3 (mkF m 16 #[.val (.ref ao), .val (.ref ab)] []) st115 ?_
  refine W.s1 (mkF m 17 #[.val (.ref ao), .val (.ref ab)] [(.ref ab)]) (fun _ kx_ => XS.aloadN X115.here hx rfl (hb hby d4_16) rfl rfl kx_) ?_
  exact W.retA X115 hx hlk Bd.returns rfl rfl rfl (hb hby d4_17) (by show Q4 Z ao ap an n xz xs h0 n0 _ T115.heap _; rw [e115]; exact ⟨_, rfl, N115, K115, hge0, f123.lt, f123.congr fun i hi => (h2 i hi).symm, Hn⟩) (by decide) (by decide)
theorem pn_2 : plainName "com/example/tempora/tempora/NotedPointsNotePinLaw" = true := by first | (simp [plainName, overriddenIn]; done) | decide +kernel
theorem ef_7 (m : MethodId) (x0 : Addr) (x1 : Int32) (x2 : Int32) (x3 : Int32) (x4 : Int32) : entryFrame m #[(.ref x0), (.int x1), (.int x2), (.int x3), (.int x4)] 5 = mkF m 0 #[.val (.ref x0), .val (.int x1), .val (.int x2), .val (.int x3), .val (.int x4)] [] := by first | (simp [entryFrame, mkF, argsToLocals, Value.category]; done) | rfl
theorem d7_0 : decode method_3_code 0 = .ok (.aload_n 0, 1) := by decide +kernel
theorem d7_1 : decode method_3_code 1 = .ok (.arraylength, 1) := by decide +kernel
theorem d7_2 : decode method_3_code 2 = .ok (.iload_n 1, 1) := by decide +kernel
theorem d7_3 : decode method_3_code 3 = .ok (.if_icmp .eq 5, 3) := by decide +kernel
theorem d7_8 : decode method_3_code 8 = .ok (.iload_n 1, 1) := by decide +kernel
theorem d7_9 : decode method_3_code 9 = .ok (.iconst 1, 1) := by decide +kernel
theorem d7_10 : decode method_3_code 10 = .ok (.if_icmp .lt 12, 3) := by decide +kernel
theorem d7_22 : decode method_3_code 22 = .ok (.iload_n 1, 1) := by decide +kernel
theorem d7_23 : decode method_3_code 23 = .ok (.iconst 2, 1) := by decide +kernel
theorem d7_24 : decode method_3_code 24 = .ok (.if_icmp .lt 12, 3) := by decide +kernel
theorem d7_36 : decode method_3_code 36 = .ok (.iload_n 1, 1) := by decide +kernel
theorem d7_37 : decode method_3_code 37 = .ok (.iconst 3, 1) := by decide +kernel
theorem d7_38 : decode method_3_code 38 = .ok (.if_icmp .lt 13, 3) := by decide +kernel
theorem d7_51 : decode method_3_code 51 = .ok (.iconst 1, 1) := by decide +kernel
theorem d7_52 : decode method_3_code 52 = .ok (.ireturn, 1) := by decide +kernel
theorem d7_41 : decode method_3_code 41 = .ok (.aload_n 0, 1) := by decide +kernel
theorem d7_42 : decode method_3_code 42 = .ok (.iconst 2, 1) := by decide +kernel
theorem d7_43 : decode method_3_code 43 = .ok (.iaload, 1) := by decide +kernel
theorem d7_44 : decode method_3_code 44 = .ok (.iload 4, 2) := by decide +kernel
theorem d7_46 : decode method_3_code 46 = .ok (.if_icmp .eq 5, 3) := by decide +kernel
theorem d7_27 : decode method_3_code 27 = .ok (.aload_n 0, 1) := by decide +kernel
theorem d7_28 : decode method_3_code 28 = .ok (.iconst 1, 1) := by decide +kernel
theorem d7_29 : decode method_3_code 29 = .ok (.iaload, 1) := by decide +kernel
theorem d7_30 : decode method_3_code 30 = .ok (.iload_n 3, 1) := by decide +kernel
theorem d7_31 : decode method_3_code 31 = .ok (.if_icmp .eq 5, 3) := by decide +kernel
theorem d7_13 : decode method_3_code 13 = .ok (.aload_n 0, 1) := by decide +kernel
theorem d7_14 : decode method_3_code 14 = .ok (.iconst 0, 1) := by decide +kernel
theorem d7_15 : decode method_3_code 15 = .ok (.iaload, 1) := by decide +kernel
theorem d7_16 : decode method_3_code 16 = .ok (.iload_n 2, 1) := by decide +kernel
theorem d7_17 : decode method_3_code 17 = .ok (.if_icmp .eq 5, 3) := by decide +kernel
def Q7 (Z : State) (ar : Addr) (xk : Int32) (x0 : Int32) (x1 : Int32) (x2 : Int32) (n : Nat) (f : Nat → Int32) (h0 : Heap) (n0 : Nat) (v : Option Value) (h : Heap) (L : List Loc) : Prop := v = some (.int 1) ∧ Fr n0 L ∧ h = h0
set_option maxRecDepth 65536 in
set_option maxHeartbeats 40000000 in
theorem rm7 (l : Launch) (Z : State) (a0 : Array Value) (hw : ∀ d ∈ tables_1, d.before a0 Z = true) (ws : List Jvm.Cond) (ar : Addr) (xk : Int32) (x0 : Int32) (x1 : Int32) (x2 : Int32) (n : Nat) (f : Nat → Int32) (h0 : Heap) (n0 : Nat) (Z0 : n0 ≤ h0.size) (A0 : W.AI Z h0 ar .int n f) (hk : xk.toInt = n) (v0 : 1 ≤ n → f 0 = x0) (v1 : 2 ≤ n → f 1 = x1) (v2 : 3 ≤ n → f 2 = x2) :
    MetFree l (⟨"com/example/tempora/tempora/NotedPointsNotePinLaw", "same", "([IIIII)Z"⟩ : MethodName) (head1 (Jvm.Cond.code (⟨"com/example/tempora/tempora/NotedPointsNotePinLaw", "same", "([IIIII)Z"⟩ : MethodName) method_3_code 5 (some .boolean) :: ws) ({ frames := 0, cells := 0, slots := 0, locals := 0 } : Room)) (fun a U => a = #[(.ref ar), (.int xk), (.int x0), (.int x1), (.int x2)] ∧ Z.Warmed39 U.vm ∧ U.heap = h0) (fun _ _ _ _ _ => True) (fun _ U o U' => ∃ v L, o = .returned v ∧ Q7 Z ar xk x0 x1 x2 n f h0 n0 v U'.heap L ∧ FrameEnd U o U' L ({ frames := 0, cells := 0, slots := 0, locals := 0 } : Room).cells ({ frames := 0, cells := 0, slots := 0, locals := 0 } : Room).slots) := by
  refine MetFree.of_bodySF (plainFor_of_name pn_2) hisR ?_
  intro p e s m args below meth c s₁ Bd hml0 hP hK
  obtain ⟨rfl, hZ, hh⟩ := hP
  have hx := Bd.exec
  have hby := Bd.bytes
  have hml : c.maxLocals = 5 := hml0
  have hown : s.vm.findClass "com/example/tempora/tempora/NotedPointsNotePinLaw" = some m.cls := findClass_of_methodNamed Bd.named
  have hnm := (name_of_methodNamed Bd.named Bd.method).1
  have hlk : meth.locks = false := BodyLoose.notSynchronized Bd
  have X0 : Stand p l e ({ frames := 0, cells := 0, slots := 0, locals := 0 } : Room) s m #[(.ref ar), (.int xk), (.int x0), (.int x1), (.int x2)] below meth c s₁ [] 0 0 := Stand.of_body Bd
  have e0 : s₁.heap = h0 := by rw [← hh, Bd.state]; rfl
  have N0 := Fr.nil n0
  show W.Gl p e below s (Q7 Z ar xk x0 x1 x2 n f h0 n0) ({ frames := 0, cells := 0, slots := 0, locals := 0 } : Room).cells ({ frames := 0, cells := 0, slots := 0, locals := 0 } : Room).slots s₁ (entryFrame m #[(.ref ar), (.int xk), (.int x0), (.int x1), (.int x2)] 5)
  refine W.cast (ef_7 m ar xk x0 x1 x2) ?_
  refine W.s1 (mkF m 1 #[.val (.ref ar), .val (.int xk), .val (.int x0), .val (.int x1), .val (.int x2)] [(.ref ar)]) (fun _ kx_ => XS.aloadN X0.here hx rfl (hb hby d7_0) rfl rfl kx_) ?_
  refine W.alen X0 hx hZ e0 A0 (z := xk) hk (hb hby d7_1) (pc' := 2) rfl ?_
  refine W.s1 (mkF m 3 #[.val (.ref ar), .val (.int xk), .val (.int x0), .val (.int x1), .val (.int x2)] [(.int xk), (.int xk)]) (fun _ kx_ => XS.iloadN X0.here hx rfl (hb hby d7_2) rfl kx_) ?_
  refine W.icmp X0 hx (hb hby d7_3) (pc' := 8) (pc'' := 6) (by decide) (by decide) rfl (fun (c3 : xk = xk) => ?_) (fun (c3 : ¬ xk = xk) => ?_)
  · refine W.s1 (mkF m 9 #[.val (.ref ar), .val (.int xk), .val (.int x0), .val (.int x1), .val (.int x2)] [(.int xk)]) (fun _ kx_ => XS.iloadN X0.here hx rfl (hb hby d7_8) rfl kx_) ?_
    refine W.s1 (mkF m 10 #[.val (.ref ar), .val (.int xk), .val (.int x0), .val (.int x1), .val (.int x2)] [(.int (1 : Int32)), (.int xk)]) (fun _ kx_ => XS.iconst X0.here hx rfl (hb hby d7_9) kx_) ?_
    refine W.icmp X0 hx (hb hby d7_10) (pc' := 22) (pc'' := 13) (by decide) (by decide) rfl (fun (c10 : xk < (1 : Int32)) => ?_) (fun (c10 : ¬ xk < (1 : Int32)) => ?_)
    · refine W.s1 (mkF m 23 #[.val (.ref ar), .val (.int xk), .val (.int x0), .val (.int x1), .val (.int x2)] [(.int xk)]) (fun _ kx_ => XS.iloadN X0.here hx rfl (hb hby d7_22) rfl kx_) ?_
      refine W.s1 (mkF m 24 #[.val (.ref ar), .val (.int xk), .val (.int x0), .val (.int x1), .val (.int x2)] [(.int (2 : Int32)), (.int xk)]) (fun _ kx_ => XS.iconst X0.here hx rfl (hb hby d7_23) kx_) ?_
      refine W.icmp X0 hx (hb hby d7_24) (pc' := 36) (pc'' := 27) (by decide) (by decide) rfl (fun (c24 : xk < (2 : Int32)) => ?_) (fun (c24 : ¬ xk < (2 : Int32)) => ?_)
      · refine W.s1 (mkF m 37 #[.val (.ref ar), .val (.int xk), .val (.int x0), .val (.int x1), .val (.int x2)] [(.int xk)]) (fun _ kx_ => XS.iloadN X0.here hx rfl (hb hby d7_36) rfl kx_) ?_
        refine W.s1 (mkF m 38 #[.val (.ref ar), .val (.int xk), .val (.int x0), .val (.int x1), .val (.int x2)] [(.int (3 : Int32)), (.int xk)]) (fun _ kx_ => XS.iconst X0.here hx rfl (hb hby d7_37) kx_) ?_
        refine W.icmp X0 hx (hb hby d7_38) (pc' := 51) (pc'' := 41) (by decide) (by decide) rfl (fun (c38 : xk < (3 : Int32)) => ?_) (fun (c38 : ¬ xk < (3 : Int32)) => ?_)
        · refine W.s1 (mkF m 52 #[.val (.ref ar), .val (.int xk), .val (.int x0), .val (.int x1), .val (.int x2)] [(.int (1 : Int32))]) (fun _ kx_ => XS.iconst X0.here hx rfl (hb hby d7_51) kx_) ?_
          exact W.retZ X0 hx hlk (t := .boolean) (z' := (1 : Int32)) Bd.returns (by simp) (hb hby d7_52) rfl (by show Q7 Z ar xk x0 x1 x2 n f h0 n0 _ s₁.heap _; rw [e0]; exact ⟨rfl, N0, rfl⟩) (by decide) (by decide)
        · refine W.s1 (mkF m 42 #[.val (.ref ar), .val (.int xk), .val (.int x0), .val (.int x1), .val (.int x2)] [(.ref ar)]) (fun _ kx_ => XS.aloadN X0.here hx rfl (hb hby d7_41) rfl rfl kx_) ?_
          refine W.s1 (mkF m 43 #[.val (.ref ar), .val (.int xk), .val (.int x0), .val (.int x1), .val (.int x2)] [(.int (2 : Int32)), (.ref ar)]) (fun _ kx_ => XS.iconst X0.here hx rfl (hb hby d7_42) kx_) ?_
          refine W.ldi X0 hx hZ e0 A0 2 rfl (by rw [Int32.lt_iff_toInt_lt, hk, show (3 : Int32).toInt = 3 from rfl] at c38; omega) (hb hby d7_43) (pc' := 44) rfl ?_
          refine W.s1 (mkF m 46 #[.val (.ref ar), .val (.int xk), .val (.int x0), .val (.int x1), .val (.int x2)] [(.int x2), (.int (f 2))]) (fun _ kx_ => XS.iload X0.here hx rfl (hb hby d7_44) rfl kx_) ?_
          refine W.icmp X0 hx (hb hby d7_46) (pc' := 51) (pc'' := 49) (by decide) (by decide) rfl (fun (c46 : (f 2) = x2) => ?_) (fun (c46 : ¬ (f 2) = x2) => ?_)
          · refine W.s1 (mkF m 52 #[.val (.ref ar), .val (.int xk), .val (.int x0), .val (.int x1), .val (.int x2)] [(.int (1 : Int32))]) (fun _ kx_ => XS.iconst X0.here hx rfl (hb hby d7_51) kx_) ?_
            exact W.retZ X0 hx hlk (t := .boolean) (z' := (1 : Int32)) Bd.returns (by simp) (hb hby d7_52) rfl (by show Q7 Z ar xk x0 x1 x2 n f h0 n0 _ s₁.heap _; rw [e0]; exact ⟨rfl, N0, rfl⟩) (by decide) (by decide)
          · exact absurd (v2 (by rw [Int32.lt_iff_toInt_lt, hk, show (3 : Int32).toInt = 3 from rfl] at c38; omega)) c46
      · refine W.s1 (mkF m 28 #[.val (.ref ar), .val (.int xk), .val (.int x0), .val (.int x1), .val (.int x2)] [(.ref ar)]) (fun _ kx_ => XS.aloadN X0.here hx rfl (hb hby d7_27) rfl rfl kx_) ?_
        refine W.s1 (mkF m 29 #[.val (.ref ar), .val (.int xk), .val (.int x0), .val (.int x1), .val (.int x2)] [(.int (1 : Int32)), (.ref ar)]) (fun _ kx_ => XS.iconst X0.here hx rfl (hb hby d7_28) kx_) ?_
        refine W.ldi X0 hx hZ e0 A0 1 rfl (by rw [Int32.lt_iff_toInt_lt, hk, show (2 : Int32).toInt = 2 from rfl] at c24; omega) (hb hby d7_29) (pc' := 30) rfl ?_
        refine W.s1 (mkF m 31 #[.val (.ref ar), .val (.int xk), .val (.int x0), .val (.int x1), .val (.int x2)] [(.int x1), (.int (f 1))]) (fun _ kx_ => XS.iloadN X0.here hx rfl (hb hby d7_30) rfl kx_) ?_
        refine W.icmp X0 hx (hb hby d7_31) (pc' := 36) (pc'' := 34) (by decide) (by decide) rfl (fun (c31 : (f 1) = x1) => ?_) (fun (c31 : ¬ (f 1) = x1) => ?_)
        · refine W.s1 (mkF m 37 #[.val (.ref ar), .val (.int xk), .val (.int x0), .val (.int x1), .val (.int x2)] [(.int xk)]) (fun _ kx_ => XS.iloadN X0.here hx rfl (hb hby d7_36) rfl kx_) ?_
          refine W.s1 (mkF m 38 #[.val (.ref ar), .val (.int xk), .val (.int x0), .val (.int x1), .val (.int x2)] [(.int (3 : Int32)), (.int xk)]) (fun _ kx_ => XS.iconst X0.here hx rfl (hb hby d7_37) kx_) ?_
          refine W.icmp X0 hx (hb hby d7_38) (pc' := 51) (pc'' := 41) (by decide) (by decide) rfl (fun (c38 : xk < (3 : Int32)) => ?_) (fun (c38 : ¬ xk < (3 : Int32)) => ?_)
          · refine W.s1 (mkF m 52 #[.val (.ref ar), .val (.int xk), .val (.int x0), .val (.int x1), .val (.int x2)] [(.int (1 : Int32))]) (fun _ kx_ => XS.iconst X0.here hx rfl (hb hby d7_51) kx_) ?_
            exact W.retZ X0 hx hlk (t := .boolean) (z' := (1 : Int32)) Bd.returns (by simp) (hb hby d7_52) rfl (by show Q7 Z ar xk x0 x1 x2 n f h0 n0 _ s₁.heap _; rw [e0]; exact ⟨rfl, N0, rfl⟩) (by decide) (by decide)
          · refine W.s1 (mkF m 42 #[.val (.ref ar), .val (.int xk), .val (.int x0), .val (.int x1), .val (.int x2)] [(.ref ar)]) (fun _ kx_ => XS.aloadN X0.here hx rfl (hb hby d7_41) rfl rfl kx_) ?_
            refine W.s1 (mkF m 43 #[.val (.ref ar), .val (.int xk), .val (.int x0), .val (.int x1), .val (.int x2)] [(.int (2 : Int32)), (.ref ar)]) (fun _ kx_ => XS.iconst X0.here hx rfl (hb hby d7_42) kx_) ?_
            refine W.ldi X0 hx hZ e0 A0 2 rfl (by rw [Int32.lt_iff_toInt_lt, hk, show (3 : Int32).toInt = 3 from rfl] at c38; omega) (hb hby d7_43) (pc' := 44) rfl ?_
            refine W.s1 (mkF m 46 #[.val (.ref ar), .val (.int xk), .val (.int x0), .val (.int x1), .val (.int x2)] [(.int x2), (.int (f 2))]) (fun _ kx_ => XS.iload X0.here hx rfl (hb hby d7_44) rfl kx_) ?_
            refine W.icmp X0 hx (hb hby d7_46) (pc' := 51) (pc'' := 49) (by decide) (by decide) rfl (fun (c46 : (f 2) = x2) => ?_) (fun (c46 : ¬ (f 2) = x2) => ?_)
            · refine W.s1 (mkF m 52 #[.val (.ref ar), .val (.int xk), .val (.int x0), .val (.int x1), .val (.int x2)] [(.int (1 : Int32))]) (fun _ kx_ => XS.iconst X0.here hx rfl (hb hby d7_51) kx_) ?_
              exact W.retZ X0 hx hlk (t := .boolean) (z' := (1 : Int32)) Bd.returns (by simp) (hb hby d7_52) rfl (by show Q7 Z ar xk x0 x1 x2 n f h0 n0 _ s₁.heap _; rw [e0]; exact ⟨rfl, N0, rfl⟩) (by decide) (by decide)
            · exact absurd (v2 (by rw [Int32.lt_iff_toInt_lt, hk, show (3 : Int32).toInt = 3 from rfl] at c38; omega)) c46
        · exact absurd (v1 (by rw [Int32.lt_iff_toInt_lt, hk, show (2 : Int32).toInt = 2 from rfl] at c24; omega)) c31
    · refine W.s1 (mkF m 14 #[.val (.ref ar), .val (.int xk), .val (.int x0), .val (.int x1), .val (.int x2)] [(.ref ar)]) (fun _ kx_ => XS.aloadN X0.here hx rfl (hb hby d7_13) rfl rfl kx_) ?_
      refine W.s1 (mkF m 15 #[.val (.ref ar), .val (.int xk), .val (.int x0), .val (.int x1), .val (.int x2)] [(.int (0 : Int32)), (.ref ar)]) (fun _ kx_ => XS.iconst X0.here hx rfl (hb hby d7_14) kx_) ?_
      refine W.ldi X0 hx hZ e0 A0 0 rfl (by rw [Int32.lt_iff_toInt_lt, hk, show (1 : Int32).toInt = 1 from rfl] at c10; omega) (hb hby d7_15) (pc' := 16) rfl ?_
      refine W.s1 (mkF m 17 #[.val (.ref ar), .val (.int xk), .val (.int x0), .val (.int x1), .val (.int x2)] [(.int x0), (.int (f 0))]) (fun _ kx_ => XS.iloadN X0.here hx rfl (hb hby d7_16) rfl kx_) ?_
      refine W.icmp X0 hx (hb hby d7_17) (pc' := 22) (pc'' := 20) (by decide) (by decide) rfl (fun (c17 : (f 0) = x0) => ?_) (fun (c17 : ¬ (f 0) = x0) => ?_)
      · refine W.s1 (mkF m 23 #[.val (.ref ar), .val (.int xk), .val (.int x0), .val (.int x1), .val (.int x2)] [(.int xk)]) (fun _ kx_ => XS.iloadN X0.here hx rfl (hb hby d7_22) rfl kx_) ?_
        refine W.s1 (mkF m 24 #[.val (.ref ar), .val (.int xk), .val (.int x0), .val (.int x1), .val (.int x2)] [(.int (2 : Int32)), (.int xk)]) (fun _ kx_ => XS.iconst X0.here hx rfl (hb hby d7_23) kx_) ?_
        refine W.icmp X0 hx (hb hby d7_24) (pc' := 36) (pc'' := 27) (by decide) (by decide) rfl (fun (c24 : xk < (2 : Int32)) => ?_) (fun (c24 : ¬ xk < (2 : Int32)) => ?_)
        · refine W.s1 (mkF m 37 #[.val (.ref ar), .val (.int xk), .val (.int x0), .val (.int x1), .val (.int x2)] [(.int xk)]) (fun _ kx_ => XS.iloadN X0.here hx rfl (hb hby d7_36) rfl kx_) ?_
          refine W.s1 (mkF m 38 #[.val (.ref ar), .val (.int xk), .val (.int x0), .val (.int x1), .val (.int x2)] [(.int (3 : Int32)), (.int xk)]) (fun _ kx_ => XS.iconst X0.here hx rfl (hb hby d7_37) kx_) ?_
          refine W.icmp X0 hx (hb hby d7_38) (pc' := 51) (pc'' := 41) (by decide) (by decide) rfl (fun (c38 : xk < (3 : Int32)) => ?_) (fun (c38 : ¬ xk < (3 : Int32)) => ?_)
          · refine W.s1 (mkF m 52 #[.val (.ref ar), .val (.int xk), .val (.int x0), .val (.int x1), .val (.int x2)] [(.int (1 : Int32))]) (fun _ kx_ => XS.iconst X0.here hx rfl (hb hby d7_51) kx_) ?_
            exact W.retZ X0 hx hlk (t := .boolean) (z' := (1 : Int32)) Bd.returns (by simp) (hb hby d7_52) rfl (by show Q7 Z ar xk x0 x1 x2 n f h0 n0 _ s₁.heap _; rw [e0]; exact ⟨rfl, N0, rfl⟩) (by decide) (by decide)
          · refine W.s1 (mkF m 42 #[.val (.ref ar), .val (.int xk), .val (.int x0), .val (.int x1), .val (.int x2)] [(.ref ar)]) (fun _ kx_ => XS.aloadN X0.here hx rfl (hb hby d7_41) rfl rfl kx_) ?_
            refine W.s1 (mkF m 43 #[.val (.ref ar), .val (.int xk), .val (.int x0), .val (.int x1), .val (.int x2)] [(.int (2 : Int32)), (.ref ar)]) (fun _ kx_ => XS.iconst X0.here hx rfl (hb hby d7_42) kx_) ?_
            refine W.ldi X0 hx hZ e0 A0 2 rfl (by rw [Int32.lt_iff_toInt_lt, hk, show (3 : Int32).toInt = 3 from rfl] at c38; omega) (hb hby d7_43) (pc' := 44) rfl ?_
            refine W.s1 (mkF m 46 #[.val (.ref ar), .val (.int xk), .val (.int x0), .val (.int x1), .val (.int x2)] [(.int x2), (.int (f 2))]) (fun _ kx_ => XS.iload X0.here hx rfl (hb hby d7_44) rfl kx_) ?_
            refine W.icmp X0 hx (hb hby d7_46) (pc' := 51) (pc'' := 49) (by decide) (by decide) rfl (fun (c46 : (f 2) = x2) => ?_) (fun (c46 : ¬ (f 2) = x2) => ?_)
            · refine W.s1 (mkF m 52 #[.val (.ref ar), .val (.int xk), .val (.int x0), .val (.int x1), .val (.int x2)] [(.int (1 : Int32))]) (fun _ kx_ => XS.iconst X0.here hx rfl (hb hby d7_51) kx_) ?_
              exact W.retZ X0 hx hlk (t := .boolean) (z' := (1 : Int32)) Bd.returns (by simp) (hb hby d7_52) rfl (by show Q7 Z ar xk x0 x1 x2 n f h0 n0 _ s₁.heap _; rw [e0]; exact ⟨rfl, N0, rfl⟩) (by decide) (by decide)
            · exact absurd (v2 (by rw [Int32.lt_iff_toInt_lt, hk, show (3 : Int32).toInt = 3 from rfl] at c38; omega)) c46
        · refine W.s1 (mkF m 28 #[.val (.ref ar), .val (.int xk), .val (.int x0), .val (.int x1), .val (.int x2)] [(.ref ar)]) (fun _ kx_ => XS.aloadN X0.here hx rfl (hb hby d7_27) rfl rfl kx_) ?_
          refine W.s1 (mkF m 29 #[.val (.ref ar), .val (.int xk), .val (.int x0), .val (.int x1), .val (.int x2)] [(.int (1 : Int32)), (.ref ar)]) (fun _ kx_ => XS.iconst X0.here hx rfl (hb hby d7_28) kx_) ?_
          refine W.ldi X0 hx hZ e0 A0 1 rfl (by rw [Int32.lt_iff_toInt_lt, hk, show (2 : Int32).toInt = 2 from rfl] at c24; omega) (hb hby d7_29) (pc' := 30) rfl ?_
          refine W.s1 (mkF m 31 #[.val (.ref ar), .val (.int xk), .val (.int x0), .val (.int x1), .val (.int x2)] [(.int x1), (.int (f 1))]) (fun _ kx_ => XS.iloadN X0.here hx rfl (hb hby d7_30) rfl kx_) ?_
          refine W.icmp X0 hx (hb hby d7_31) (pc' := 36) (pc'' := 34) (by decide) (by decide) rfl (fun (c31 : (f 1) = x1) => ?_) (fun (c31 : ¬ (f 1) = x1) => ?_)
          · refine W.s1 (mkF m 37 #[.val (.ref ar), .val (.int xk), .val (.int x0), .val (.int x1), .val (.int x2)] [(.int xk)]) (fun _ kx_ => XS.iloadN X0.here hx rfl (hb hby d7_36) rfl kx_) ?_
            refine W.s1 (mkF m 38 #[.val (.ref ar), .val (.int xk), .val (.int x0), .val (.int x1), .val (.int x2)] [(.int (3 : Int32)), (.int xk)]) (fun _ kx_ => XS.iconst X0.here hx rfl (hb hby d7_37) kx_) ?_
            refine W.icmp X0 hx (hb hby d7_38) (pc' := 51) (pc'' := 41) (by decide) (by decide) rfl (fun (c38 : xk < (3 : Int32)) => ?_) (fun (c38 : ¬ xk < (3 : Int32)) => ?_)
            · refine W.s1 (mkF m 52 #[.val (.ref ar), .val (.int xk), .val (.int x0), .val (.int x1), .val (.int x2)] [(.int (1 : Int32))]) (fun _ kx_ => XS.iconst X0.here hx rfl (hb hby d7_51) kx_) ?_
              exact W.retZ X0 hx hlk (t := .boolean) (z' := (1 : Int32)) Bd.returns (by simp) (hb hby d7_52) rfl (by show Q7 Z ar xk x0 x1 x2 n f h0 n0 _ s₁.heap _; rw [e0]; exact ⟨rfl, N0, rfl⟩) (by decide) (by decide)
            · refine W.s1 (mkF m 42 #[.val (.ref ar), .val (.int xk), .val (.int x0), .val (.int x1), .val (.int x2)] [(.ref ar)]) (fun _ kx_ => XS.aloadN X0.here hx rfl (hb hby d7_41) rfl rfl kx_) ?_
              refine W.s1 (mkF m 43 #[.val (.ref ar), .val (.int xk), .val (.int x0), .val (.int x1), .val (.int x2)] [(.int (2 : Int32)), (.ref ar)]) (fun _ kx_ => XS.iconst X0.here hx rfl (hb hby d7_42) kx_) ?_
              refine W.ldi X0 hx hZ e0 A0 2 rfl (by rw [Int32.lt_iff_toInt_lt, hk, show (3 : Int32).toInt = 3 from rfl] at c38; omega) (hb hby d7_43) (pc' := 44) rfl ?_
              refine W.s1 (mkF m 46 #[.val (.ref ar), .val (.int xk), .val (.int x0), .val (.int x1), .val (.int x2)] [(.int x2), (.int (f 2))]) (fun _ kx_ => XS.iload X0.here hx rfl (hb hby d7_44) rfl kx_) ?_
              refine W.icmp X0 hx (hb hby d7_46) (pc' := 51) (pc'' := 49) (by decide) (by decide) rfl (fun (c46 : (f 2) = x2) => ?_) (fun (c46 : ¬ (f 2) = x2) => ?_)
              · refine W.s1 (mkF m 52 #[.val (.ref ar), .val (.int xk), .val (.int x0), .val (.int x1), .val (.int x2)] [(.int (1 : Int32))]) (fun _ kx_ => XS.iconst X0.here hx rfl (hb hby d7_51) kx_) ?_
                exact W.retZ X0 hx hlk (t := .boolean) (z' := (1 : Int32)) Bd.returns (by simp) (hb hby d7_52) rfl (by show Q7 Z ar xk x0 x1 x2 n f h0 n0 _ s₁.heap _; rw [e0]; exact ⟨rfl, N0, rfl⟩) (by decide) (by decide)
              · exact absurd (v2 (by rw [Int32.lt_iff_toInt_lt, hk, show (3 : Int32).toInt = 3 from rfl] at c38; omega)) c46
          · exact absurd (v1 (by rw [Int32.lt_iff_toInt_lt, hk, show (2 : Int32).toInt = 2 from rfl] at c24; omega)) c31
      · exact absurd (v0 (by rw [Int32.lt_iff_toInt_lt, hk, show (1 : Int32).toInt = 1 from rfl] at c10; omega)) c17
  · exact absurd rfl c3
theorem ef_0 (m : MethodId) (x0 : Int32) (x1 : Int32) (x2 : Int32) (x3 : Int32) (x4 : Int32) : entryFrame m #[(.int x0), (.int x1), (.int x2), (.int x3), (.int x4)] maxLocals = mkF m 0 #[.val (.int x0), .val (.int x1), .val (.int x2), .val (.int x3), .val (.int x4), .unset, .unset, .unset, .unset, .unset, .unset, .unset, .unset, .unset, .unset, .unset, .unset, .unset, .unset] [] := by first | (simp [entryFrame, mkF, argsToLocals, Value.category, maxLocals]; done) | rfl
theorem pd_3 : parseMethodDescriptor "(I)V" = some ⟨[.int], none⟩ := by decide +kernel
theorem pd_4 : parseMethodDescriptor "()[I" = some ⟨[], some (.array .int)⟩ := by decide +kernel
theorem pd_5 : parseMethodDescriptor "([IIIII)Z" = some ⟨[(.array .int), .int, .int, .int, .int], some .boolean⟩ := by decide +kernel
def Q0 (Z : State) (xsz : Int32) (xa : Int32) (xb : Int32) (xc : Int32) (xd : Int32) (h0 : Heap) (n0 : Nat) (v : Option Value) (h : Heap) (L : List Loc) : Prop := v = some (.int 1) ∧ Fr n0 L
set_option maxRecDepth 65536 in
set_option maxHeartbeats 40000000 in
theorem rm0 (l : Launch) (Z : State) (a0 : Array Value) (hw : ∀ d ∈ tables_1, d.before a0 Z = true) (ws : List Jvm.Cond) (xsz : Int32) (xa : Int32) (xb : Int32) (xc : Int32) (xd : Int32) (h0 : Heap) (n0 : Nat) (Z0 : n0 ≤ h0.size) :
    MetFree l x (head1 (Jvm.Cond.code x code maxLocals ret :: ws) room_1) (fun a U => a = #[(.int xsz), (.int xa), (.int xb), (.int xc), (.int xd)] ∧ Z.Warmed39 U.vm ∧ U.heap = h0) (fun _ _ _ _ _ => True) (fun _ U o U' => ∃ v L, o = .returned v ∧ Q0 Z xsz xa xb xc xd h0 n0 v U'.heap L ∧ FrameEnd U o U' L 24 128) := by
  refine MetFree.of_bodySF (plainFor_of_name pn_2) hisR ?_
  intro p e s m args below meth c s₁ Bd hml0 hP hK
  obtain ⟨rfl, hZ, hh⟩ := hP
  have hx := Bd.exec
  have hby := Bd.bytes
  have hml : c.maxLocals = 19 := hml0
  have hown : s.vm.findClass "com/example/tempora/tempora/NotedPointsNotePinLaw" = some m.cls := findClass_of_methodNamed Bd.named
  have hnm := (name_of_methodNamed Bd.named Bd.method).1
  have hlk : meth.locks = false := BodyLoose.notSynchronized Bd
  have X0 : Stand p l e room_1 s m #[(.int xsz), (.int xa), (.int xb), (.int xc), (.int xd)] below meth c s₁ [] 0 0 := Stand.of_body Bd
  have e0 : s₁.heap = h0 := by rw [← hh, Bd.state]; rfl
  have N0 := Fr.nil n0
  show W.Gl p e below s (Q0 Z xsz xa xb xc xd h0 n0) 24 128 s₁ (entryFrame m #[(.int xsz), (.int xa), (.int xb), (.int xc), (.int xd)] maxLocals)
  refine W.cast (ef_0 m xsz xa xb xc xd) ?_
  refine W.s1 (mkF m 1 #[.val (.int xsz), .val (.int xa), .val (.int xb), .val (.int xc), .val (.int xd), .unset, .unset, .unset, .unset, .unset, .unset, .unset, .unset, .unset, .unset, .unset, .unset, .unset, .unset] [(.int (1 : Int32))]) (fun _ kx_ => XS.iconst X0.here hx rfl (hb hby at_0) kx_) ?_
  refine W.s1 (mkF m 2 #[.val (.int xsz), .val (.int xa), .val (.int xb), .val (.int xc), .val (.int xd), .unset, .unset, .unset, .unset, .unset, .unset, .unset, .unset, .unset, .unset, .unset, .unset, .unset, .unset] [(.int xsz), (.int (1 : Int32))]) (fun _ kx_ => XS.iloadN X0.here hx rfl (hb hby at_1) rfl kx_) ?_
  refine W.s1 (mkF m 4 #[.val (.int xsz), .val (.int xa), .val (.int xb), .val (.int xc), .val (.int xd), .unset, .unset, .unset, .unset, .unset, .unset, .unset, .unset, .unset, .unset, .unset, .unset, .unset, .unset] [(.int (7 : Int32)), (.int xsz), (.int (1 : Int32))]) (fun _ kx_ => XS.bipush X0.here hx rfl (hb hby at_2) kx_) ?_
  refine W.s1 (mkF m 5 #[.val (.int xsz), .val (.int xa), .val (.int xb), .val (.int xc), .val (.int xd), .unset, .unset, .unset, .unset, .unset, .unset, .unset, .unset, .unset, .unset, .unset, .unset, .unset, .unset] [(.int (xsz &&& (7 : Int32))), (.int (1 : Int32))]) (fun _ kx_ => XS.iand X0.here hx rfl (hb hby at_4) rfl kx_) ?_
  refine W.s1 (mkF m 6 #[.val (.int xsz), .val (.int xa), .val (.int xb), .val (.int xc), .val (.int xd), .unset, .unset, .unset, .unset, .unset, .unset, .unset, .unset, .unset, .unset, .unset, .unset, .unset, .unset] [(.int ((1 : Int32) + (xsz &&& (7 : Int32))))]) (fun _ kx_ => XS.iadd X0.here hx rfl (hb hby at_5) rfl kx_) ?_
  generalize hg_xn : ((1 : Int32) + (xsz &&& (7 : Int32))) = xn
  refine W.s1 (mkF m 8 #[.val (.int xsz), .val (.int xa), .val (.int xb), .val (.int xc), .val (.int xd), .val (.int xn), .unset, .unset, .unset, .unset, .unset, .unset, .unset, .unset, .unset, .unset, .unset, .unset, .unset] []) (fun _ kx_ => XS.istore X0.here hx rfl (hb hby at_6) rfl (l' := #[.val (.int xsz), .val (.int xa), .val (.int xb), .val (.int xc), .val (.int xd), .val (.int xn), .unset, .unset, .unset, .unset, .unset, .unset, .unset, .unset, .unset, .unset, .unset, .unset, .unset]) rfl kx_) ?_
  obtain ⟨n, hn, hn1, hn8⟩ := own_sz hg_xn
  have hxn : xn ≠ 0 := fun q => by rw [q] at hn; have e0 : (0 : Int32).toInt = 0 := rfl; omega
  refine W.s1 (mkF m 9 #[.val (.int xsz), .val (.int xa), .val (.int xb), .val (.int xc), .val (.int xd), .val (.int xn), .unset, .unset, .unset, .unset, .unset, .unset, .unset, .unset, .unset, .unset, .unset, .unset, .unset] [(.int xa)]) (fun _ kx_ => XS.iloadN X0.here hx rfl (hb hby at_8) rfl kx_) ?_
  refine W.s1 (mkF m 11 #[.val (.int xsz), .val (.int xa), .val (.int xb), .val (.int xc), .val (.int xd), .val (.int xn), .unset, .unset, .unset, .unset, .unset, .unset, .unset, .unset, .unset, .unset, .unset, .unset, .unset] [(.int (2147483647 : Int32)), (.int xa)]) (fun _ kx_ => X0.ldcInt hx hown (mvT hZ (hw _ (List.mem_of_getElem? (i := 0) rfl))) (g := (mkF m 9 #[.val (.int xsz), .val (.int xa), .val (.int xb), .val (.int xc), .val (.int xd), .val (.int xn), .unset, .unset, .unset, .unset, .unset, .unset, .unset, .unset, .unset, .unset, .unset, .unset, .unset] [(.int xa)])) rfl (hb hby at_9) _ kx_) ?_
  refine W.s1 (mkF m 12 #[.val (.int xsz), .val (.int xa), .val (.int xb), .val (.int xc), .val (.int xd), .val (.int xn), .unset, .unset, .unset, .unset, .unset, .unset, .unset, .unset, .unset, .unset, .unset, .unset, .unset] [(.int (xa &&& (2147483647 : Int32)))]) (fun _ kx_ => XS.iand X0.here hx rfl (hb hby at_11) rfl kx_) ?_
  refine W.s1 (mkF m 14 #[.val (.int xsz), .val (.int xa), .val (.int xb), .val (.int xc), .val (.int xd), .val (.int xn), .unset, .unset, .unset, .unset, .unset, .unset, .unset, .unset, .unset, .unset, .unset, .unset, .unset] [(.int xn), (.int (xa &&& (2147483647 : Int32)))]) (fun _ kx_ => XS.iload X0.here hx rfl (hb hby at_12) rfl kx_) ?_
  refine W.s1 (mkF m 15 #[.val (.int xsz), .val (.int xa), .val (.int xb), .val (.int xc), .val (.int xd), .val (.int xn), .unset, .unset, .unset, .unset, .unset, .unset, .unset, .unset, .unset, .unset, .unset, .unset, .unset] [(.int ((xa &&& (2147483647 : Int32)) % xn))]) (fun _ kx_ => iremM X0 hx rfl (hb hby at_14) rfl hxn kx_) ?_
  generalize hg_p1 : ((xa &&& (2147483647 : Int32)) % xn) = p1
  refine W.s1 (mkF m 17 #[.val (.int xsz), .val (.int xa), .val (.int xb), .val (.int xc), .val (.int xd), .val (.int xn), .val (.int p1), .unset, .unset, .unset, .unset, .unset, .unset, .unset, .unset, .unset, .unset, .unset, .unset] []) (fun _ kx_ => XS.istore X0.here hx rfl (hb hby at_15) rfl (l' := #[.val (.int xsz), .val (.int xa), .val (.int xb), .val (.int xc), .val (.int xd), .val (.int xn), .val (.int p1), .unset, .unset, .unset, .unset, .unset, .unset, .unset, .unset, .unset, .unset, .unset, .unset]) rfl kx_) ?_
  refine W.s1 (mkF m 18 #[.val (.int xsz), .val (.int xa), .val (.int xb), .val (.int xc), .val (.int xd), .val (.int xn), .val (.int p1), .unset, .unset, .unset, .unset, .unset, .unset, .unset, .unset, .unset, .unset, .unset, .unset] [(.int xb)]) (fun _ kx_ => XS.iloadN X0.here hx rfl (hb hby at_17) rfl kx_) ?_
  refine W.s1 (mkF m 20 #[.val (.int xsz), .val (.int xa), .val (.int xb), .val (.int xc), .val (.int xd), .val (.int xn), .val (.int p1), .unset, .unset, .unset, .unset, .unset, .unset, .unset, .unset, .unset, .unset, .unset, .unset] [(.int (2147483647 : Int32)), (.int xb)]) (fun _ kx_ => X0.ldcInt hx hown (mvT hZ (hw _ (List.mem_of_getElem? (i := 0) rfl))) (g := (mkF m 18 #[.val (.int xsz), .val (.int xa), .val (.int xb), .val (.int xc), .val (.int xd), .val (.int xn), .val (.int p1), .unset, .unset, .unset, .unset, .unset, .unset, .unset, .unset, .unset, .unset, .unset, .unset] [(.int xb)])) rfl (hb hby at_18) _ kx_) ?_
  refine W.s1 (mkF m 21 #[.val (.int xsz), .val (.int xa), .val (.int xb), .val (.int xc), .val (.int xd), .val (.int xn), .val (.int p1), .unset, .unset, .unset, .unset, .unset, .unset, .unset, .unset, .unset, .unset, .unset, .unset] [(.int (xb &&& (2147483647 : Int32)))]) (fun _ kx_ => XS.iand X0.here hx rfl (hb hby at_20) rfl kx_) ?_
  refine W.s1 (mkF m 23 #[.val (.int xsz), .val (.int xa), .val (.int xb), .val (.int xc), .val (.int xd), .val (.int xn), .val (.int p1), .unset, .unset, .unset, .unset, .unset, .unset, .unset, .unset, .unset, .unset, .unset, .unset] [(.int xn), (.int (xb &&& (2147483647 : Int32)))]) (fun _ kx_ => XS.iload X0.here hx rfl (hb hby at_21) rfl kx_) ?_
  refine W.s1 (mkF m 24 #[.val (.int xsz), .val (.int xa), .val (.int xb), .val (.int xc), .val (.int xd), .val (.int xn), .val (.int p1), .unset, .unset, .unset, .unset, .unset, .unset, .unset, .unset, .unset, .unset, .unset, .unset] [(.int ((xb &&& (2147483647 : Int32)) % xn))]) (fun _ kx_ => iremM X0 hx rfl (hb hby at_23) rfl hxn kx_) ?_
  generalize hg_p2 : ((xb &&& (2147483647 : Int32)) % xn) = p2
  refine W.s1 (mkF m 26 #[.val (.int xsz), .val (.int xa), .val (.int xb), .val (.int xc), .val (.int xd), .val (.int xn), .val (.int p1), .val (.int p2), .unset, .unset, .unset, .unset, .unset, .unset, .unset, .unset, .unset, .unset, .unset] []) (fun _ kx_ => XS.istore X0.here hx rfl (hb hby at_24) rfl (l' := #[.val (.int xsz), .val (.int xa), .val (.int xb), .val (.int xc), .val (.int xd), .val (.int xn), .val (.int p1), .val (.int p2), .unset, .unset, .unset, .unset, .unset, .unset, .unset, .unset, .unset, .unset, .unset]) rfl kx_) ?_
  refine W.s1 (mkF m 27 #[.val (.int xsz), .val (.int xa), .val (.int xb), .val (.int xc), .val (.int xd), .val (.int xn), .val (.int p1), .val (.int p2), .unset, .unset, .unset, .unset, .unset, .unset, .unset, .unset, .unset, .unset, .unset] [(.int xc)]) (fun _ kx_ => XS.iloadN X0.here hx rfl (hb hby at_26) rfl kx_) ?_
  refine W.s1 (mkF m 29 #[.val (.int xsz), .val (.int xa), .val (.int xb), .val (.int xc), .val (.int xd), .val (.int xn), .val (.int p1), .val (.int p2), .unset, .unset, .unset, .unset, .unset, .unset, .unset, .unset, .unset, .unset, .unset] [(.int (2147483647 : Int32)), (.int xc)]) (fun _ kx_ => X0.ldcInt hx hown (mvT hZ (hw _ (List.mem_of_getElem? (i := 0) rfl))) (g := (mkF m 27 #[.val (.int xsz), .val (.int xa), .val (.int xb), .val (.int xc), .val (.int xd), .val (.int xn), .val (.int p1), .val (.int p2), .unset, .unset, .unset, .unset, .unset, .unset, .unset, .unset, .unset, .unset, .unset] [(.int xc)])) rfl (hb hby at_27) _ kx_) ?_
  refine W.s1 (mkF m 30 #[.val (.int xsz), .val (.int xa), .val (.int xb), .val (.int xc), .val (.int xd), .val (.int xn), .val (.int p1), .val (.int p2), .unset, .unset, .unset, .unset, .unset, .unset, .unset, .unset, .unset, .unset, .unset] [(.int (xc &&& (2147483647 : Int32)))]) (fun _ kx_ => XS.iand X0.here hx rfl (hb hby at_29) rfl kx_) ?_
  refine W.s1 (mkF m 32 #[.val (.int xsz), .val (.int xa), .val (.int xb), .val (.int xc), .val (.int xd), .val (.int xn), .val (.int p1), .val (.int p2), .unset, .unset, .unset, .unset, .unset, .unset, .unset, .unset, .unset, .unset, .unset] [(.int xn), (.int (xc &&& (2147483647 : Int32)))]) (fun _ kx_ => XS.iload X0.here hx rfl (hb hby at_30) rfl kx_) ?_
  refine W.s1 (mkF m 33 #[.val (.int xsz), .val (.int xa), .val (.int xb), .val (.int xc), .val (.int xd), .val (.int xn), .val (.int p1), .val (.int p2), .unset, .unset, .unset, .unset, .unset, .unset, .unset, .unset, .unset, .unset, .unset] [(.int ((xc &&& (2147483647 : Int32)) % xn))]) (fun _ kx_ => iremM X0 hx rfl (hb hby at_32) rfl hxn kx_) ?_
  generalize hg_p3 : ((xc &&& (2147483647 : Int32)) % xn) = p3
  refine W.s1 (mkF m 35 #[.val (.int xsz), .val (.int xa), .val (.int xb), .val (.int xc), .val (.int xd), .val (.int xn), .val (.int p1), .val (.int p2), .val (.int p3), .unset, .unset, .unset, .unset, .unset, .unset, .unset, .unset, .unset, .unset] []) (fun _ kx_ => XS.istore X0.here hx rfl (hb hby at_33) rfl (l' := #[.val (.int xsz), .val (.int xa), .val (.int xb), .val (.int xc), .val (.int xd), .val (.int xn), .val (.int p1), .val (.int p2), .val (.int p3), .unset, .unset, .unset, .unset, .unset, .unset, .unset, .unset, .unset, .unset]) rfl kx_) ?_
  refine W.s1 (mkF m 37 #[.val (.int xsz), .val (.int xa), .val (.int xb), .val (.int xc), .val (.int xd), .val (.int xn), .val (.int p1), .val (.int p2), .val (.int p3), .unset, .unset, .unset, .unset, .unset, .unset, .unset, .unset, .unset, .unset] [(.int xd)]) (fun _ kx_ => XS.iload X0.here hx rfl (hb hby at_35) rfl kx_) ?_
  refine W.s1 (mkF m 39 #[.val (.int xsz), .val (.int xa), .val (.int xb), .val (.int xc), .val (.int xd), .val (.int xn), .val (.int p1), .val (.int p2), .val (.int p3), .unset, .unset, .unset, .unset, .unset, .unset, .unset, .unset, .unset, .unset] [(.int (2147483647 : Int32)), (.int xd)]) (fun _ kx_ => X0.ldcInt hx hown (mvT hZ (hw _ (List.mem_of_getElem? (i := 0) rfl))) (g := (mkF m 37 #[.val (.int xsz), .val (.int xa), .val (.int xb), .val (.int xc), .val (.int xd), .val (.int xn), .val (.int p1), .val (.int p2), .val (.int p3), .unset, .unset, .unset, .unset, .unset, .unset, .unset, .unset, .unset, .unset] [(.int xd)])) rfl (hb hby at_37) _ kx_) ?_
  refine W.s1 (mkF m 40 #[.val (.int xsz), .val (.int xa), .val (.int xb), .val (.int xc), .val (.int xd), .val (.int xn), .val (.int p1), .val (.int p2), .val (.int p3), .unset, .unset, .unset, .unset, .unset, .unset, .unset, .unset, .unset, .unset] [(.int (xd &&& (2147483647 : Int32)))]) (fun _ kx_ => XS.iand X0.here hx rfl (hb hby at_39) rfl kx_) ?_
  refine W.s1 (mkF m 42 #[.val (.int xsz), .val (.int xa), .val (.int xb), .val (.int xc), .val (.int xd), .val (.int xn), .val (.int p1), .val (.int p2), .val (.int p3), .unset, .unset, .unset, .unset, .unset, .unset, .unset, .unset, .unset, .unset] [(.int xn), (.int (xd &&& (2147483647 : Int32)))]) (fun _ kx_ => XS.iload X0.here hx rfl (hb hby at_40) rfl kx_) ?_
  refine W.s1 (mkF m 43 #[.val (.int xsz), .val (.int xa), .val (.int xb), .val (.int xc), .val (.int xd), .val (.int xn), .val (.int p1), .val (.int p2), .val (.int p3), .unset, .unset, .unset, .unset, .unset, .unset, .unset, .unset, .unset, .unset] [(.int ((xd &&& (2147483647 : Int32)) % xn))]) (fun _ kx_ => iremM X0 hx rfl (hb hby at_42) rfl hxn kx_) ?_
  generalize hg_xq : ((xd &&& (2147483647 : Int32)) % xn) = xq
  refine W.s1 (mkF m 45 #[.val (.int xsz), .val (.int xa), .val (.int xb), .val (.int xc), .val (.int xd), .val (.int xn), .val (.int p1), .val (.int p2), .val (.int p3), .val (.int xq), .unset, .unset, .unset, .unset, .unset, .unset, .unset, .unset, .unset] []) (fun _ kx_ => XS.istore X0.here hx rfl (hb hby at_43) rfl (l' := #[.val (.int xsz), .val (.int xa), .val (.int xb), .val (.int xc), .val (.int xd), .val (.int xn), .val (.int p1), .val (.int p2), .val (.int p3), .val (.int xq), .unset, .unset, .unset, .unset, .unset, .unset, .unset, .unset, .unset]) rfl kx_) ?_
  obtain ⟨k1, hk1, hl1⟩ := own_pt hn hn1 hg_p1
  obtain ⟨k2, hk2, hl2⟩ := own_pt hn hn1 hg_p2
  obtain ⟨k3, hk3, hl3⟩ := own_pt hn hn1 hg_p3
  obtain ⟨k4, hk4, hl4⟩ := own_pt hn hn1 hg_xq
  refine W.newo X0 hx hZ hown (hw _ (List.mem_of_getElem? (i := 1) rfl)) (hw _ (List.mem_of_getElem? (i := 2) rfl)) (hw _ (List.mem_of_getElem? (i := 3) rfl)) e0 (hb hby at_45) (by decide) (by decide) (pc' := 48) rfl (fun T101 h101 b101 X101 e101 E101 g101 A101 D101 => ?_)
  have ge101 : n0 ≤ b101 := Nat.le_trans Z0 (Nat.le_of_eq g101.symm)
  have Z101 : n0 ≤ h101.size := Nat.le_trans Z0 E101.1
  have f102 : Fld Z h101 b101 "com/example/tempora/tempora/NotedPoints" "points" "[I" .null := D101 (Or.inr (hw _ (List.mem_of_getElem? (i := 12) rfl))) (ty := (.array .int)) (by decide)
  have f103 : Fld Z h101 b101 "com/example/tempora/tempora/NotedPoints" "noted" "[Z" .null := D101 (Or.inr (hw _ (List.mem_of_getElem? (i := 15) rfl))) (ty := (.array .boolean)) (by decide)
  have f104 : Fld Z h101 b101 "com/example/tempora/tempora/NotedPoints" "count" "I" (.int (0 : Int32)) := D101 (Or.inl (hw _ (List.mem_of_getElem? (i := 22) rfl))) (ty := .int) (by decide)
  refine W.s1 (mkF m 49 #[.val (.int xsz), .val (.int xa), .val (.int xb), .val (.int xc), .val (.int xd), .val (.int xn), .val (.int p1), .val (.int p2), .val (.int p3), .val (.int xq), .unset, .unset, .unset, .unset, .unset, .unset, .unset, .unset, .unset] [(.ref b101), (.ref b101)]) (fun _ kx_ => XS.dup X101.here hx rfl (hb hby at_48) rfl rfl kx_) ?_
  refine W.s1 (mkF m 51 #[.val (.int xsz), .val (.int xa), .val (.int xb), .val (.int xc), .val (.int xd), .val (.int xn), .val (.int p1), .val (.int p2), .val (.int p3), .val (.int xq), .unset, .unset, .unset, .unset, .unset, .unset, .unset, .unset, .unset] [(.int xn), (.ref b101), (.ref b101)]) (fun _ kx_ => XS.iload X101.here hx rfl (hb hby at_49) rfl kx_) ?_
  have Zo := Z101
  obtain ⟨_, _, ⟨T105, L105, k105, n105⟩, -, X105, ⟨Lc105, hQ105, l105, y105, z105⟩, st105⟩ := X101.specialBack hx (y := (⟨"com/example/tempora/tempora/NotedPoints", "<init>", "(I)V"⟩ : MethodName)) rfl hown (mvT hZ (hw _ (List.mem_of_getElem? (i := 4) rfl))) (mvT hZ (hw _ (List.mem_of_getElem? (i := 5) rfl))) (mvT hZ (hw _ (List.mem_of_getElem? (i := 6) rfl))) (by decide) (backOf (W := 1) (rm1 l Z a0 hw [] b101 xn n .null .null h101 n0 Z101 hn hn8 A101 f102 f103 f104 ge101) hZ (hw _ (List.mem_of_getElem? (i := 6) rfl)) (hw _ (List.mem_of_getElem? (i := 3) rfl)) (by decide) (by decide)) (g := (mkF m 51 #[.val (.int xsz), .val (.int xa), .val (.int xb), .val (.int xc), .val (.int xd), .val (.int xn), .val (.int p1), .val (.int p2), .val (.int p3), .val (.int xq), .unset, .unset, .unset, .unset, .unset, .unset, .unset, .unset, .unset] [(.int xn), (.ref b101), (.ref b101)])) rfl (by rw [hml]; rfl) (Steps.refl _) (a := b101) (argsL := [(.int xn)]) (rest := [(.ref b101)]) (lenOf pd_3 rfl) rfl (by show 2 * 0 + _ ≤ _; exact Nat.le_of_eq rfl) (hb hby at_51) (fun _ _ => ⟨rfl, e101, (by decide : 1 + 2 ≤ _), (by decide : 3 + 16 ≤ _)⟩)
  dsimp only [Pt.U, Pt.locs, Pt.cells, Pt.slots] at X105 l105 y105 z105 st105 hQ105
  subst l105 y105 z105
  obtain ⟨h105, e105⟩ : ∃ z, T105.heap = z := ⟨_, rfl⟩
  rw [e105] at hQ105
  obtain ⟨rfl, Nq105, Kq105, ap, an, hp1, hp2, hp3, hp4, hp5, H105⟩ := hQ105
  have N105 := Fr.app N0 Nq105
  have Z105 : n0 ≤ h105.size := Nat.le_trans Z101 Kq105.1
  have f106 := A101.keep Kq105
  have ge_ap : n0 ≤ ap := Nat.le_trans Zo hp1
  have ge_an : n0 ≤ an := Nat.le_trans Zo hp2
  refine W.s3 (mkF m 54 #[.val (.int xsz), .val (.int xa), .val (.int xb), .val (.int xc), .val (.int xd), .val (.int xn), .val (.int p1), .val (.int p2), .val (.int p3), .val (.int xq), .unset, .unset, .unset, .unset, .unset, .unset, .unset, .unset, .unset] [(.ref b101)]) st105 ?_
  refine W.s1 (mkF m 56 #[.val (.int xsz), .val (.int xa), .val (.int xb), .val (.int xc), .val (.int xd), .val (.int xn), .val (.int p1), .val (.int p2), .val (.int p3), .val (.int xq), .val (.ref b101), .unset, .unset, .unset, .unset, .unset, .unset, .unset, .unset] []) (fun _ kx_ => XS.astore X105.here hx rfl (hb hby at_54) rfl rfl (l' := #[.val (.int xsz), .val (.int xa), .val (.int xb), .val (.int xc), .val (.int xd), .val (.int xn), .val (.int p1), .val (.int p2), .val (.int p3), .val (.int xq), .val (.ref b101), .unset, .unset, .unset, .unset, .unset, .unset, .unset, .unset]) rfl kx_) ?_
  refine W.s1 (mkF m 58 #[.val (.int xsz), .val (.int xa), .val (.int xb), .val (.int xc), .val (.int xd), .val (.int xn), .val (.int p1), .val (.int p2), .val (.int p3), .val (.int xq), .val (.ref b101), .unset, .unset, .unset, .unset, .unset, .unset, .unset, .unset] [(.ref b101)]) (fun _ kx_ => XS.aload X105.here hx rfl (hb hby at_56) rfl rfl kx_) ?_
  refine W.s1 (mkF m 60 #[.val (.int xsz), .val (.int xa), .val (.int xb), .val (.int xc), .val (.int xd), .val (.int xn), .val (.int p1), .val (.int p2), .val (.int p3), .val (.int xq), .val (.ref b101), .unset, .unset, .unset, .unset, .unset, .unset, .unset, .unset] [(.int p1), (.ref b101)]) (fun _ kx_ => XS.iload X105.here hx rfl (hb hby at_58) rfl kx_) ?_
  obtain ⟨cq110, kq110, q110a, q110b, q110c⟩ := isOf hZ e105 f106
  obtain ⟨_, _, ⟨T110, L110, k110, n110⟩, -, X110, ⟨Lc110, hQ110, l110, y110, z110⟩, st110⟩ := X105.virtualBack hx (y := (⟨"com/example/tempora/tempora/NotedPoints", "note", "(I)V"⟩ : MethodName)) (z := (⟨"com/example/tempora/tempora/NotedPoints", "note", "(I)V"⟩ : MethodName)) hown (mvT hZ (hw _ (List.mem_of_getElem? (i := 16) rfl))) (mvT hZ (hw _ (List.mem_of_getElem? (i := 17) rfl))) (notFace_of_selects (args := #[]) (mvT hZ (hw _ (List.mem_of_getElem? (i := 19) rfl)))) (mvT hZ (hw _ (List.mem_of_getElem? (i := 19) rfl))) (mvT hZ (hw _ (List.mem_of_getElem? (i := 18) rfl))) (by decide) (backOf (W := 0) (rm3 l Z a0 hw [] b101 p1 ap an n xn [] k1 h105 n0 Z105 hn hn8 H105 hk1 hl1 (Or.inr hn1) hp4 hp5 hp3 ge101 ge_ap ge_an) hZ (hw _ (List.mem_of_getElem? (i := 20) rfl)) (hw _ (List.mem_of_getElem? (i := 3) rfl)) (by decide) (by decide)) q110a q110c (g := (mkF m 60 #[.val (.int xsz), .val (.int xa), .val (.int xb), .val (.int xc), .val (.int xd), .val (.int xn), .val (.int p1), .val (.int p2), .val (.int p3), .val (.int xq), .val (.ref b101), .unset, .unset, .unset, .unset, .unset, .unset, .unset, .unset] [(.int p1), (.ref b101)])) rfl (by rw [hml]; rfl) (Steps.refl _) (argsL := [(.int p1)]) (rest := []) (lenOf pd_3 rfl) rfl (by show 2 * 0 + _ ≤ _; exact Nat.le_of_eq rfl) (hb hby at_60) (fun _ _ => ⟨rfl, e105, (by decide : 3 + 0 ≤ _), (by decide : 19 + 0 ≤ _)⟩)
  dsimp only [Pt.U, Pt.locs, Pt.cells, Pt.slots] at X110 l110 y110 z110 st110 hQ110
  subst l110 y110 z110
  obtain ⟨h110, e110⟩ : ∃ z, T110.heap = z := ⟨_, rfl⟩
  rw [e110] at hQ110
  obtain ⟨rfl, Nq110, Kq110, hz110⟩ := hQ110
  have N110 := Fr.app N105 Nq110
  have Z110 : n0 ≤ h110.size := Nat.le_trans Z105 Kq110.1
  have f111 := f106.keep Kq110
  have H110 : own_NP Z h110 b101 ap an n [p1] := hz110.elim (fun q => absurd q.1 List.not_mem_nil) (fun q => q.2)
  refine W.s3 (mkF m 63 #[.val (.int xsz), .val (.int xa), .val (.int xb), .val (.int xc), .val (.int xd), .val (.int xn), .val (.int p1), .val (.int p2), .val (.int p3), .val (.int xq), .val (.ref b101), .unset, .unset, .unset, .unset, .unset, .unset, .unset, .unset] []) st110 ?_
  refine W.s1 (mkF m 65 #[.val (.int xsz), .val (.int xa), .val (.int xb), .val (.int xc), .val (.int xd), .val (.int xn), .val (.int p1), .val (.int p2), .val (.int p3), .val (.int xq), .val (.ref b101), .unset, .unset, .unset, .unset, .unset, .unset, .unset, .unset] [(.ref b101)]) (fun _ kx_ => XS.aload X110.here hx rfl (hb hby at_63) rfl rfl kx_) ?_
  refine W.s1 (mkF m 67 #[.val (.int xsz), .val (.int xa), .val (.int xb), .val (.int xc), .val (.int xd), .val (.int xn), .val (.int p1), .val (.int p2), .val (.int p3), .val (.int xq), .val (.ref b101), .unset, .unset, .unset, .unset, .unset, .unset, .unset, .unset] [(.int p2), (.ref b101)]) (fun _ kx_ => XS.iload X110.here hx rfl (hb hby at_65) rfl kx_) ?_
  obtain ⟨cq112, kq112, q112a, q112b, q112c⟩ := isOf hZ e110 f111
  obtain ⟨_, _, ⟨T112, L112, k112, n112⟩, -, X112, ⟨Lc112, hQ112, l112, y112, z112⟩, st112⟩ := X110.virtualBack hx (y := (⟨"com/example/tempora/tempora/NotedPoints", "note", "(I)V"⟩ : MethodName)) (z := (⟨"com/example/tempora/tempora/NotedPoints", "note", "(I)V"⟩ : MethodName)) hown (mvT hZ (hw _ (List.mem_of_getElem? (i := 16) rfl))) (mvT hZ (hw _ (List.mem_of_getElem? (i := 17) rfl))) (notFace_of_selects (args := #[]) (mvT hZ (hw _ (List.mem_of_getElem? (i := 19) rfl)))) (mvT hZ (hw _ (List.mem_of_getElem? (i := 19) rfl))) (mvT hZ (hw _ (List.mem_of_getElem? (i := 18) rfl))) (by decide) (backOf (W := 0) (rm3 l Z a0 hw [] b101 p2 ap an n xn [p1] k2 h110 n0 Z110 hn hn8 H110 hk2 hl2 (if q : p2 ∈ ([p1] : List Int32) then Or.inl q else Or.inr (by simp only [List.mem_cons, List.not_mem_nil, or_false, not_or] at q; have := own_ne q; skip; show 1 < n; omega)) hp4 hp5 hp3 ge101 ge_ap ge_an) hZ (hw _ (List.mem_of_getElem? (i := 20) rfl)) (hw _ (List.mem_of_getElem? (i := 3) rfl)) (by decide) (by decide)) q112a q112c (g := (mkF m 67 #[.val (.int xsz), .val (.int xa), .val (.int xb), .val (.int xc), .val (.int xd), .val (.int xn), .val (.int p1), .val (.int p2), .val (.int p3), .val (.int xq), .val (.ref b101), .unset, .unset, .unset, .unset, .unset, .unset, .unset, .unset] [(.int p2), (.ref b101)])) rfl (by rw [hml]; rfl) (Steps.refl _) (argsL := [(.int p2)]) (rest := []) (lenOf pd_3 rfl) rfl (by show 2 * 0 + _ ≤ _; exact Nat.le_of_eq rfl) (hb hby at_67) (fun _ _ => ⟨rfl, e110, (by decide : 3 + 0 ≤ _), (by decide : 19 + 0 ≤ _)⟩)
  dsimp only [Pt.U, Pt.locs, Pt.cells, Pt.slots] at X112 l112 y112 z112 st112 hQ112
  subst l112 y112 z112
  obtain ⟨h112, e112⟩ : ∃ z, T112.heap = z := ⟨_, rfl⟩
  rw [e112] at hQ112
  obtain ⟨rfl, Nq112, Kq112, hz112⟩ := hQ112
  have N112 := Fr.app N110 Nq112
  have Z112 : n0 ≤ h112.size := Nat.le_trans Z110 Kq112.1
  have f113 := f111.keep Kq112
  refine W.s3 (mkF m 70 #[.val (.int xsz), .val (.int xa), .val (.int xb), .val (.int xc), .val (.int xd), .val (.int xn), .val (.int p1), .val (.int p2), .val (.int p3), .val (.int xq), .val (.ref b101), .unset, .unset, .unset, .unset, .unset, .unset, .unset, .unset] []) st112 ?_
  rcases hz112 with hz112 | hz112
  · have H112 := hz112.2
    have hm112 : p2 = p1 := List.mem_singleton.mp hz112.1
    refine W.s1 (mkF m 72 #[.val (.int xsz), .val (.int xa), .val (.int xb), .val (.int xc), .val (.int xd), .val (.int xn), .val (.int p1), .val (.int p2), .val (.int p3), .val (.int xq), .val (.ref b101), .unset, .unset, .unset, .unset, .unset, .unset, .unset, .unset] [(.ref b101)]) (fun _ kx_ => XS.aload X112.here hx rfl (hb hby at_70) rfl rfl kx_) ?_
    refine W.s1 (mkF m 74 #[.val (.int xsz), .val (.int xa), .val (.int xb), .val (.int xc), .val (.int xd), .val (.int xn), .val (.int p1), .val (.int p2), .val (.int p3), .val (.int xq), .val (.ref b101), .unset, .unset, .unset, .unset, .unset, .unset, .unset, .unset] [(.int p3), (.ref b101)]) (fun _ kx_ => XS.iload X112.here hx rfl (hb hby at_72) rfl kx_) ?_
    obtain ⟨cq114, kq114, q114a, q114b, q114c⟩ := isOf hZ e112 f113
    obtain ⟨_, _, ⟨T114, L114, k114, n114⟩, -, X114, ⟨Lc114, hQ114, l114, y114, z114⟩, st114⟩ := X112.virtualBack hx (y := (⟨"com/example/tempora/tempora/NotedPoints", "note", "(I)V"⟩ : MethodName)) (z := (⟨"com/example/tempora/tempora/NotedPoints", "note", "(I)V"⟩ : MethodName)) hown (mvT hZ (hw _ (List.mem_of_getElem? (i := 16) rfl))) (mvT hZ (hw _ (List.mem_of_getElem? (i := 17) rfl))) (notFace_of_selects (args := #[]) (mvT hZ (hw _ (List.mem_of_getElem? (i := 19) rfl)))) (mvT hZ (hw _ (List.mem_of_getElem? (i := 19) rfl))) (mvT hZ (hw _ (List.mem_of_getElem? (i := 18) rfl))) (by decide) (backOf (W := 0) (rm3 l Z a0 hw [] b101 p3 ap an n xn [p1] k3 h112 n0 Z112 hn hn8 H112 hk3 hl3 (if q : p3 ∈ ([p1] : List Int32) then Or.inl q else Or.inr (by simp only [List.mem_cons, List.not_mem_nil, or_false, not_or] at q; have := own_ne q; skip; show 1 < n; omega)) hp4 hp5 hp3 ge101 ge_ap ge_an) hZ (hw _ (List.mem_of_getElem? (i := 20) rfl)) (hw _ (List.mem_of_getElem? (i := 3) rfl)) (by decide) (by decide)) q114a q114c (g := (mkF m 74 #[.val (.int xsz), .val (.int xa), .val (.int xb), .val (.int xc), .val (.int xd), .val (.int xn), .val (.int p1), .val (.int p2), .val (.int p3), .val (.int xq), .val (.ref b101), .unset, .unset, .unset, .unset, .unset, .unset, .unset, .unset] [(.int p3), (.ref b101)])) rfl (by rw [hml]; rfl) (Steps.refl _) (argsL := [(.int p3)]) (rest := []) (lenOf pd_3 rfl) rfl (by show 2 * 0 + _ ≤ _; exact Nat.le_of_eq rfl) (hb hby at_74) (fun _ _ => ⟨rfl, e112, (by decide : 3 + 0 ≤ _), (by decide : 19 + 0 ≤ _)⟩)
    dsimp only [Pt.U, Pt.locs, Pt.cells, Pt.slots] at X114 l114 y114 z114 st114 hQ114
    subst l114 y114 z114
    obtain ⟨h114, e114⟩ : ∃ z, T114.heap = z := ⟨_, rfl⟩
    rw [e114] at hQ114
    obtain ⟨rfl, Nq114, Kq114, hz114⟩ := hQ114
    have N114 := Fr.app N112 Nq114
    have Z114 : n0 ≤ h114.size := Nat.le_trans Z112 Kq114.1
    have f115 := f113.keep Kq114
    refine W.s3 (mkF m 77 #[.val (.int xsz), .val (.int xa), .val (.int xb), .val (.int xc), .val (.int xd), .val (.int xn), .val (.int p1), .val (.int p2), .val (.int p3), .val (.int xq), .val (.ref b101), .unset, .unset, .unset, .unset, .unset, .unset, .unset, .unset] []) st114 ?_
    rcases hz114 with hz114 | hz114
    · have H114 := hz114.2
      have hm114 : p3 = p1 := List.mem_singleton.mp hz114.1
      refine W.s1 (mkF m 79 #[.val (.int xsz), .val (.int xa), .val (.int xb), .val (.int xc), .val (.int xd), .val (.int xn), .val (.int p1), .val (.int p2), .val (.int p3), .val (.int xq), .val (.ref b101), .unset, .unset, .unset, .unset, .unset, .unset, .unset, .unset] [(.ref b101)]) (fun _ kx_ => XS.aload X114.here hx rfl (hb hby at_77) rfl rfl kx_) ?_
      have Zo_79 := Z114
      have hge_at1 : ap < h114.size ∧ an < h114.size := by obtain ⟨_, _, _, _, _, _, _, q1, q2, _⟩ := H114; exact ⟨q1.lt, q2.lt⟩
      obtain ⟨cq116, kq116, q116a, q116b, q116c⟩ := isOf hZ e114 f115
      obtain ⟨_, _, ⟨T116, L116, k116, n116⟩, -, X116, ⟨Lc116, hQ116, l116, y116, z116⟩, st116⟩ := X114.virtualBack hx (y := (⟨"com/example/tempora/tempora/NotedPoints", "take", "()[I"⟩ : MethodName)) (z := (⟨"com/example/tempora/tempora/NotedPoints", "take", "()[I"⟩ : MethodName)) hown (mvT hZ (hw _ (List.mem_of_getElem? (i := 23) rfl))) (mvT hZ (hw _ (List.mem_of_getElem? (i := 24) rfl))) (notFace_of_selects (args := #[]) (mvT hZ (hw _ (List.mem_of_getElem? (i := 26) rfl)))) (mvT hZ (hw _ (List.mem_of_getElem? (i := 26) rfl))) (mvT hZ (hw _ (List.mem_of_getElem? (i := 25) rfl))) (by decide) (backOf (W := 0) (rm4 l Z a0 hw [] b101 ap an n xn [p1] h114 n0 Z114 hn hn8 (by show 1 ≤ n; skip; omega) H114 hp4 hp5 hp3 ge101 ge_ap ge_an) hZ (hw _ (List.mem_of_getElem? (i := 27) rfl)) (hw _ (List.mem_of_getElem? (i := 3) rfl)) (by decide) (by decide)) q116a q116c (g := (mkF m 79 #[.val (.int xsz), .val (.int xa), .val (.int xb), .val (.int xc), .val (.int xd), .val (.int xn), .val (.int p1), .val (.int p2), .val (.int p3), .val (.int xq), .val (.ref b101), .unset, .unset, .unset, .unset, .unset, .unset, .unset, .unset] [(.ref b101)])) rfl (by rw [hml]; rfl) (Steps.refl _) (argsL := []) (rest := []) (lenOf pd_4 rfl) rfl (by show 2 * 0 + _ ≤ _; exact Nat.le_of_eq rfl) (hb hby at_79) (fun _ _ => ⟨rfl, e114, (by decide : 3 + 1 ≤ _), (by decide : 19 + 8 ≤ _)⟩)
      dsimp only [Pt.U, Pt.locs, Pt.cells, Pt.slots] at X116 l116 y116 z116 st116 hQ116
      subst l116 y116 z116
      obtain ⟨h116, e116⟩ : ∃ z, T116.heap = z := ⟨_, rfl⟩
      rw [e116] at hQ116
      obtain ⟨at1, rfl, Nq116, Kq116, hgtat1, hltat1, A116, H116⟩ := hQ116
      have N116 := Fr.app N114 Nq116
      have Z116 : n0 ≤ h116.size := Nat.le_trans Z114 Kq116.1
      have f117 := f115.keep Kq116
      have ne118 : b101 ≠ at1 := Nat.ne_of_lt (Nat.lt_of_lt_of_le f115.lt hgtat1)
      have ge119 : n0 ≤ at1 := Nat.le_trans Zo_79 hgtat1
      have ne_ap_at1 : ap ≠ at1 := Nat.ne_of_lt (Nat.lt_of_lt_of_le hge_at1.1 hgtat1)
      have ne_an_at1 : an ≠ at1 := Nat.ne_of_lt (Nat.lt_of_lt_of_le hge_at1.2 hgtat1)
      refine W.s3 (mkF m 82 #[.val (.int xsz), .val (.int xa), .val (.int xb), .val (.int xc), .val (.int xd), .val (.int xn), .val (.int p1), .val (.int p2), .val (.int p3), .val (.int xq), .val (.ref b101), .unset, .unset, .unset, .unset, .unset, .unset, .unset, .unset] [(.ref at1)]) st116 ?_
      refine W.s1 (mkF m 84 #[.val (.int xsz), .val (.int xa), .val (.int xb), .val (.int xc), .val (.int xd), .val (.int xn), .val (.int p1), .val (.int p2), .val (.int p3), .val (.int xq), .val (.ref b101), .val (.ref at1), .unset, .unset, .unset, .unset, .unset, .unset, .unset] []) (fun _ kx_ => XS.astore X116.here hx rfl (hb hby at_82) rfl rfl (l' := #[.val (.int xsz), .val (.int xa), .val (.int xb), .val (.int xc), .val (.int xd), .val (.int xn), .val (.int p1), .val (.int p2), .val (.int p3), .val (.int xq), .val (.ref b101), .val (.ref at1), .unset, .unset, .unset, .unset, .unset, .unset, .unset]) rfl kx_) ?_
      refine W.s1 (mkF m 85 #[.val (.int xsz), .val (.int xa), .val (.int xb), .val (.int xc), .val (.int xd), .val (.int xn), .val (.int p1), .val (.int p2), .val (.int p3), .val (.int xq), .val (.ref b101), .val (.ref at1), .unset, .unset, .unset, .unset, .unset, .unset, .unset] [(.int (-1 : Int32))]) (fun _ kx_ => XS.iconst X116.here hx rfl (hb hby at_84) kx_) ?_
      refine W.s1 (mkF m 87 #[.val (.int xsz), .val (.int xa), .val (.int xb), .val (.int xc), .val (.int xd), .val (.int xn), .val (.int p1), .val (.int p2), .val (.int p3), .val (.int xq), .val (.ref b101), .val (.ref at1), .val (.int (-1 : Int32)), .unset, .unset, .unset, .unset, .unset, .unset] []) (fun _ kx_ => XS.istore X116.here hx rfl (hb hby at_85) rfl (l' := #[.val (.int xsz), .val (.int xa), .val (.int xb), .val (.int xc), .val (.int xd), .val (.int xn), .val (.int p1), .val (.int p2), .val (.int p3), .val (.int xq), .val (.ref b101), .val (.ref at1), .val (.int (-1 : Int32)), .unset, .unset, .unset, .unset, .unset, .unset]) rfl kx_) ?_
      refine W.s1 (mkF m 88 #[.val (.int xsz), .val (.int xa), .val (.int xb), .val (.int xc), .val (.int xd), .val (.int xn), .val (.int p1), .val (.int p2), .val (.int p3), .val (.int xq), .val (.ref b101), .val (.ref at1), .val (.int (-1 : Int32)), .unset, .unset, .unset, .unset, .unset, .unset] [(.int (-1 : Int32))]) (fun _ kx_ => XS.iconst X116.here hx rfl (hb hby at_87) kx_) ?_
      refine W.s1 (mkF m 90 #[.val (.int xsz), .val (.int xa), .val (.int xb), .val (.int xc), .val (.int xd), .val (.int xn), .val (.int p1), .val (.int p2), .val (.int p3), .val (.int xq), .val (.ref b101), .val (.ref at1), .val (.int (-1 : Int32)), .val (.int (-1 : Int32)), .unset, .unset, .unset, .unset, .unset] []) (fun _ kx_ => XS.istore X116.here hx rfl (hb hby at_88) rfl (l' := #[.val (.int xsz), .val (.int xa), .val (.int xb), .val (.int xc), .val (.int xd), .val (.int xn), .val (.int p1), .val (.int p2), .val (.int p3), .val (.int xq), .val (.ref b101), .val (.ref at1), .val (.int (-1 : Int32)), .val (.int (-1 : Int32)), .unset, .unset, .unset, .unset, .unset]) rfl kx_) ?_
      refine W.s1 (mkF m 91 #[.val (.int xsz), .val (.int xa), .val (.int xb), .val (.int xc), .val (.int xd), .val (.int xn), .val (.int p1), .val (.int p2), .val (.int p3), .val (.int xq), .val (.ref b101), .val (.ref at1), .val (.int (-1 : Int32)), .val (.int (-1 : Int32)), .unset, .unset, .unset, .unset, .unset] [(.int (1 : Int32))]) (fun _ kx_ => XS.iconst X116.here hx rfl (hb hby at_90) kx_) ?_
      refine W.s1 (mkF m 93 #[.val (.int xsz), .val (.int xa), .val (.int xb), .val (.int xc), .val (.int xd), .val (.int xn), .val (.int p1), .val (.int p2), .val (.int p3), .val (.int xq), .val (.ref b101), .val (.ref at1), .val (.int (-1 : Int32)), .val (.int (-1 : Int32)), .val (.int (1 : Int32)), .unset, .unset, .unset, .unset] []) (fun _ kx_ => XS.istore X116.here hx rfl (hb hby at_91) rfl (l' := #[.val (.int xsz), .val (.int xa), .val (.int xb), .val (.int xc), .val (.int xd), .val (.int xn), .val (.int p1), .val (.int p2), .val (.int p3), .val (.int xq), .val (.ref b101), .val (.ref at1), .val (.int (-1 : Int32)), .val (.int (-1 : Int32)), .val (.int (1 : Int32)), .unset, .unset, .unset, .unset]) rfl kx_) ?_
      refine W.s1 (mkF m 95 #[.val (.int xsz), .val (.int xa), .val (.int xb), .val (.int xc), .val (.int xd), .val (.int xn), .val (.int p1), .val (.int p2), .val (.int p3), .val (.int xq), .val (.ref b101), .val (.ref at1), .val (.int (-1 : Int32)), .val (.int (-1 : Int32)), .val (.int (1 : Int32)), .unset, .unset, .unset, .unset] [(.int p2)]) (fun _ kx_ => XS.iload X116.here hx rfl (hb hby at_93) rfl kx_) ?_
      refine W.s1 (mkF m 97 #[.val (.int xsz), .val (.int xa), .val (.int xb), .val (.int xc), .val (.int xd), .val (.int xn), .val (.int p1), .val (.int p2), .val (.int p3), .val (.int xq), .val (.ref b101), .val (.ref at1), .val (.int (-1 : Int32)), .val (.int (-1 : Int32)), .val (.int (1 : Int32)), .unset, .unset, .unset, .unset] [(.int p1), (.int p2)]) (fun _ kx_ => XS.iload X116.here hx rfl (hb hby at_95) rfl kx_) ?_
      refine W.icmp X116 hx (hb hby at_97) (pc' := 107) (pc'' := 100) (by decide) (by decide) rfl (fun (c97 : p2 = p1) => ?_) (fun (c97 : ¬ p2 = p1) => ?_)
      · refine W.s1 (mkF m 109 #[.val (.int xsz), .val (.int xa), .val (.int xb), .val (.int xc), .val (.int xd), .val (.int xn), .val (.int p1), .val (.int p2), .val (.int p3), .val (.int xq), .val (.ref b101), .val (.ref at1), .val (.int (-1 : Int32)), .val (.int (-1 : Int32)), .val (.int (1 : Int32)), .unset, .unset, .unset, .unset] [(.int p3)]) (fun _ kx_ => XS.iload X116.here hx rfl (hb hby at_107) rfl kx_) ?_
        refine W.s1 (mkF m 111 #[.val (.int xsz), .val (.int xa), .val (.int xb), .val (.int xc), .val (.int xd), .val (.int xn), .val (.int p1), .val (.int p2), .val (.int p3), .val (.int xq), .val (.ref b101), .val (.ref at1), .val (.int (-1 : Int32)), .val (.int (-1 : Int32)), .val (.int (1 : Int32)), .unset, .unset, .unset, .unset] [(.int p1), (.int p3)]) (fun _ kx_ => XS.iload X116.here hx rfl (hb hby at_109) rfl kx_) ?_
        refine W.icmp X116 hx (hb hby at_111) (pc' := 144) (pc'' := 114) (by decide) (by decide) rfl (fun (c111 : p3 = p1) => ?_) (fun (c111 : ¬ p3 = p1) => ?_)
        · refine W.s1 (mkF m 146 #[.val (.int xsz), .val (.int xa), .val (.int xb), .val (.int xc), .val (.int xd), .val (.int xn), .val (.int p1), .val (.int p2), .val (.int p3), .val (.int xq), .val (.ref b101), .val (.ref at1), .val (.int (-1 : Int32)), .val (.int (-1 : Int32)), .val (.int (1 : Int32)), .unset, .unset, .unset, .unset] [(.ref at1)]) (fun _ kx_ => XS.aload X116.here hx rfl (hb hby at_144) rfl rfl kx_) ?_
          refine W.s1 (mkF m 148 #[.val (.int xsz), .val (.int xa), .val (.int xb), .val (.int xc), .val (.int xd), .val (.int xn), .val (.int p1), .val (.int p2), .val (.int p3), .val (.int xq), .val (.ref b101), .val (.ref at1), .val (.int (-1 : Int32)), .val (.int (-1 : Int32)), .val (.int (1 : Int32)), .unset, .unset, .unset, .unset] [(.int (1 : Int32)), (.ref at1)]) (fun _ kx_ => XS.iload X116.here hx rfl (hb hby at_146) rfl kx_) ?_
          refine W.s1 (mkF m 150 #[.val (.int xsz), .val (.int xa), .val (.int xb), .val (.int xc), .val (.int xd), .val (.int xn), .val (.int p1), .val (.int p2), .val (.int p3), .val (.int xq), .val (.ref b101), .val (.ref at1), .val (.int (-1 : Int32)), .val (.int (-1 : Int32)), .val (.int (1 : Int32)), .unset, .unset, .unset, .unset] [(.int p1), (.int (1 : Int32)), (.ref at1)]) (fun _ kx_ => XS.iload X116.here hx rfl (hb hby at_148) rfl kx_) ?_
          refine W.s1 (mkF m 152 #[.val (.int xsz), .val (.int xa), .val (.int xb), .val (.int xc), .val (.int xd), .val (.int xn), .val (.int p1), .val (.int p2), .val (.int p3), .val (.int xq), .val (.ref b101), .val (.ref at1), .val (.int (-1 : Int32)), .val (.int (-1 : Int32)), .val (.int (1 : Int32)), .unset, .unset, .unset, .unset] [(.int (-1 : Int32)), (.int p1), (.int (1 : Int32)), (.ref at1)]) (fun _ kx_ => XS.iload X116.here hx rfl (hb hby at_150) rfl kx_) ?_
          refine W.s1 (mkF m 154 #[.val (.int xsz), .val (.int xa), .val (.int xb), .val (.int xc), .val (.int xd), .val (.int xn), .val (.int p1), .val (.int p2), .val (.int p3), .val (.int xq), .val (.ref b101), .val (.ref at1), .val (.int (-1 : Int32)), .val (.int (-1 : Int32)), .val (.int (1 : Int32)), .unset, .unset, .unset, .unset] [(.int (-1 : Int32)), (.int (-1 : Int32)), (.int p1), (.int (1 : Int32)), (.ref at1)]) (fun _ kx_ => XS.iload X116.here hx rfl (hb hby at_152) rfl kx_) ?_
          obtain ⟨_, _, ⟨T120, L120, k120, n120⟩, -, X120, ⟨Lc120, hQ120, l120, y120, z120⟩, st120⟩ := Jvm.LawKit.callS X116 hx (y := (⟨"com/example/tempora/tempora/NotedPointsNotePinLaw", "same", "([IIIII)Z"⟩ : MethodName)) hown (mvT hZ (hw _ (List.mem_of_getElem? (i := 46) rfl))) (mvT hZ (hw _ (List.mem_of_getElem? (i := 47) rfl))) (mvT hZ (hw _ (List.mem_of_getElem? (i := 48) rfl))) (mvT hZ (hw _ (List.mem_of_getElem? (i := 49) rfl))) (by decide) (backOf (W := 0) (rm7 l Z a0 hw [] at1 (1 : Int32) p1 (-1 : Int32) (-1 : Int32) 1 (fun i => [p1].getD i 0) h116 n0 Z116 A116 rfl (fun _ => rfl) (fun q => absurd q (by decide)) (fun q => absurd q (by decide))) hZ (hw _ (List.mem_of_getElem? (i := 49) rfl)) (hw _ (List.mem_of_getElem? (i := 48) rfl)) (by decide) (by decide)) (g := (mkF m 154 #[.val (.int xsz), .val (.int xa), .val (.int xb), .val (.int xc), .val (.int xd), .val (.int xn), .val (.int p1), .val (.int p2), .val (.int p3), .val (.int xq), .val (.ref b101), .val (.ref at1), .val (.int (-1 : Int32)), .val (.int (-1 : Int32)), .val (.int (1 : Int32)), .unset, .unset, .unset, .unset] [(.int (-1 : Int32)), (.int (-1 : Int32)), (.int p1), (.int (1 : Int32)), (.ref at1)])) rfl (by rw [hml]; rfl) (argsL := [(.ref at1), (.int (1 : Int32)), (.int p1), (.int (-1 : Int32)), (.int (-1 : Int32))]) (rest := []) (lenOf pd_5 rfl) rfl (by show 2 * 0 + _ ≤ _; exact Nat.le_of_eq rfl) (hb hby at_154) (fun _ _ => ⟨rfl, e116, (by decide : 4 + 0 ≤ _), (by decide : 27 + 0 ≤ _)⟩)
          dsimp only [Pt.U, Pt.locs, Pt.cells, Pt.slots] at X120 l120 y120 z120 st120 hQ120
          subst l120 y120 z120
          obtain ⟨rfl, Nq120, eq120⟩ := hQ120
          have N120 := Fr.app N116 Nq120
          refine W.s2 (mkF m 157 #[.val (.int xsz), .val (.int xa), .val (.int xb), .val (.int xc), .val (.int xd), .val (.int xn), .val (.int p1), .val (.int p2), .val (.int p3), .val (.int xq), .val (.ref b101), .val (.ref at1), .val (.int (-1 : Int32)), .val (.int (-1 : Int32)), .val (.int (1 : Int32)), .unset, .unset, .unset, .unset] [(.int (1 : Int32))]) st120 ?_
          refine W.s1 (mkF m 159 #[.val (.int xsz), .val (.int xa), .val (.int xb), .val (.int xc), .val (.int xd), .val (.int xn), .val (.int p1), .val (.int p2), .val (.int p3), .val (.int xq), .val (.ref b101), .val (.ref at1), .val (.int (-1 : Int32)), .val (.int (-1 : Int32)), .val (.int (1 : Int32)), .val (.int (1 : Int32)), .unset, .unset, .unset] []) (fun _ kx_ => XS.istore X120.here hx rfl (hb hby at_157) rfl (l' := #[.val (.int xsz), .val (.int xa), .val (.int xb), .val (.int xc), .val (.int xd), .val (.int xn), .val (.int p1), .val (.int p2), .val (.int p3), .val (.int xq), .val (.ref b101), .val (.ref at1), .val (.int (-1 : Int32)), .val (.int (-1 : Int32)), .val (.int (1 : Int32)), .val (.int (1 : Int32)), .unset, .unset, .unset]) rfl kx_) ?_
          refine W.s1 (mkF m 161 #[.val (.int xsz), .val (.int xa), .val (.int xb), .val (.int xc), .val (.int xd), .val (.int xn), .val (.int p1), .val (.int p2), .val (.int p3), .val (.int xq), .val (.ref b101), .val (.ref at1), .val (.int (-1 : Int32)), .val (.int (-1 : Int32)), .val (.int (1 : Int32)), .val (.int (1 : Int32)), .unset, .unset, .unset] [(.ref b101)]) (fun _ kx_ => XS.aload X120.here hx rfl (hb hby at_159) rfl rfl kx_) ?_
          refine W.s1 (mkF m 163 #[.val (.int xsz), .val (.int xa), .val (.int xb), .val (.int xc), .val (.int xd), .val (.int xn), .val (.int p1), .val (.int p2), .val (.int p3), .val (.int xq), .val (.ref b101), .val (.ref at1), .val (.int (-1 : Int32)), .val (.int (-1 : Int32)), .val (.int (1 : Int32)), .val (.int (1 : Int32)), .unset, .unset, .unset] [(.int xq), (.ref b101)]) (fun _ kx_ => XS.iload X120.here hx rfl (hb hby at_161) rfl kx_) ?_
          obtain ⟨cq121, kq121, q121a, q121b, q121c⟩ := isOf hZ eq120 f117
          obtain ⟨_, _, ⟨T121, L121, k121, n121⟩, -, X121, ⟨Lc121, hQ121, l121, y121, z121⟩, st121⟩ := X120.virtualBack hx (y := (⟨"com/example/tempora/tempora/NotedPoints", "note", "(I)V"⟩ : MethodName)) (z := (⟨"com/example/tempora/tempora/NotedPoints", "note", "(I)V"⟩ : MethodName)) hown (mvT hZ (hw _ (List.mem_of_getElem? (i := 16) rfl))) (mvT hZ (hw _ (List.mem_of_getElem? (i := 17) rfl))) (notFace_of_selects (args := #[]) (mvT hZ (hw _ (List.mem_of_getElem? (i := 19) rfl)))) (mvT hZ (hw _ (List.mem_of_getElem? (i := 19) rfl))) (mvT hZ (hw _ (List.mem_of_getElem? (i := 18) rfl))) (by decide) (backOf (W := 0) (rm3 l Z a0 hw [] b101 xq ap an n xn [] k4 h116 n0 Z116 hn hn8 H116 hk4 hl4 (Or.inr hn1) hp4 hp5 hp3 ge101 ge_ap ge_an) hZ (hw _ (List.mem_of_getElem? (i := 20) rfl)) (hw _ (List.mem_of_getElem? (i := 3) rfl)) (by decide) (by decide)) q121a q121c (g := (mkF m 163 #[.val (.int xsz), .val (.int xa), .val (.int xb), .val (.int xc), .val (.int xd), .val (.int xn), .val (.int p1), .val (.int p2), .val (.int p3), .val (.int xq), .val (.ref b101), .val (.ref at1), .val (.int (-1 : Int32)), .val (.int (-1 : Int32)), .val (.int (1 : Int32)), .val (.int (1 : Int32)), .unset, .unset, .unset] [(.int xq), (.ref b101)])) rfl (by rw [hml]; rfl) (Steps.refl _) (argsL := [(.int xq)]) (rest := []) (lenOf pd_3 rfl) rfl (by show 2 * 0 + _ ≤ _; exact Nat.le_of_eq rfl) (hb hby at_163) (fun _ _ => ⟨rfl, eq120, (by decide : 4 + 0 ≤ _), (by decide : 27 + 0 ≤ _)⟩)
          dsimp only [Pt.U, Pt.locs, Pt.cells, Pt.slots] at X121 l121 y121 z121 st121 hQ121
          subst l121 y121 z121
          obtain ⟨h121, e121⟩ : ∃ z, T121.heap = z := ⟨_, rfl⟩
          rw [e121] at hQ121
          obtain ⟨rfl, Nq121, Kq121, hz121⟩ := hQ121
          have N121 := Fr.app N120 Nq121
          have Z121 : n0 ≤ h121.size := Nat.le_trans Z116 Kq121.1
          have f122 := f117.keep Kq121
          have f123 := A116.keep Kq121 (ninS (Ne.symm ne118) (ninS (Ne.symm ne_ap_at1) (ninS (Ne.symm ne_an_at1) nin0)))
          have H121 : own_NP Z h121 b101 ap an n [xq] := hz121.elim (fun q => absurd q.1 List.not_mem_nil) (fun q => q.2)
          refine W.s3 (mkF m 166 #[.val (.int xsz), .val (.int xa), .val (.int xb), .val (.int xc), .val (.int xd), .val (.int xn), .val (.int p1), .val (.int p2), .val (.int p3), .val (.int xq), .val (.ref b101), .val (.ref at1), .val (.int (-1 : Int32)), .val (.int (-1 : Int32)), .val (.int (1 : Int32)), .val (.int (1 : Int32)), .unset, .unset, .unset] []) st121 ?_
          refine W.s1 (mkF m 168 #[.val (.int xsz), .val (.int xa), .val (.int xb), .val (.int xc), .val (.int xd), .val (.int xn), .val (.int p1), .val (.int p2), .val (.int p3), .val (.int xq), .val (.ref b101), .val (.ref at1), .val (.int (-1 : Int32)), .val (.int (-1 : Int32)), .val (.int (1 : Int32)), .val (.int (1 : Int32)), .unset, .unset, .unset] [(.ref b101)]) (fun _ kx_ => XS.aload X121.here hx rfl (hb hby at_166) rfl rfl kx_) ?_
          refine W.s1 (mkF m 170 #[.val (.int xsz), .val (.int xa), .val (.int xb), .val (.int xc), .val (.int xd), .val (.int xn), .val (.int p1), .val (.int p2), .val (.int p3), .val (.int xq), .val (.ref b101), .val (.ref at1), .val (.int (-1 : Int32)), .val (.int (-1 : Int32)), .val (.int (1 : Int32)), .val (.int (1 : Int32)), .unset, .unset, .unset] [(.int p1), (.ref b101)]) (fun _ kx_ => XS.iload X121.here hx rfl (hb hby at_168) rfl kx_) ?_
          obtain ⟨cq124, kq124, q124a, q124b, q124c⟩ := isOf hZ e121 f122
          obtain ⟨_, _, ⟨T124, L124, k124, n124⟩, -, X124, ⟨Lc124, hQ124, l124, y124, z124⟩, st124⟩ := X121.virtualBack hx (y := (⟨"com/example/tempora/tempora/NotedPoints", "note", "(I)V"⟩ : MethodName)) (z := (⟨"com/example/tempora/tempora/NotedPoints", "note", "(I)V"⟩ : MethodName)) hown (mvT hZ (hw _ (List.mem_of_getElem? (i := 16) rfl))) (mvT hZ (hw _ (List.mem_of_getElem? (i := 17) rfl))) (notFace_of_selects (args := #[]) (mvT hZ (hw _ (List.mem_of_getElem? (i := 19) rfl)))) (mvT hZ (hw _ (List.mem_of_getElem? (i := 19) rfl))) (mvT hZ (hw _ (List.mem_of_getElem? (i := 18) rfl))) (by decide) (backOf (W := 0) (rm3 l Z a0 hw [] b101 p1 ap an n xn [xq] k1 h121 n0 Z121 hn hn8 H121 hk1 hl1 (if q : p1 ∈ ([xq] : List Int32) then Or.inl q else Or.inr (by simp only [List.mem_cons, List.not_mem_nil, or_false, not_or] at q; have := own_ne q; skip; show 1 < n; omega)) hp4 hp5 hp3 ge101 ge_ap ge_an) hZ (hw _ (List.mem_of_getElem? (i := 20) rfl)) (hw _ (List.mem_of_getElem? (i := 3) rfl)) (by decide) (by decide)) q124a q124c (g := (mkF m 170 #[.val (.int xsz), .val (.int xa), .val (.int xb), .val (.int xc), .val (.int xd), .val (.int xn), .val (.int p1), .val (.int p2), .val (.int p3), .val (.int xq), .val (.ref b101), .val (.ref at1), .val (.int (-1 : Int32)), .val (.int (-1 : Int32)), .val (.int (1 : Int32)), .val (.int (1 : Int32)), .unset, .unset, .unset] [(.int p1), (.ref b101)])) rfl (by rw [hml]; rfl) (Steps.refl _) (argsL := [(.int p1)]) (rest := []) (lenOf pd_3 rfl) rfl (by show 2 * 0 + _ ≤ _; exact Nat.le_of_eq rfl) (hb hby at_170) (fun _ _ => ⟨rfl, e121, (by decide : 4 + 0 ≤ _), (by decide : 27 + 0 ≤ _)⟩)
          dsimp only [Pt.U, Pt.locs, Pt.cells, Pt.slots] at X124 l124 y124 z124 st124 hQ124
          subst l124 y124 z124
          obtain ⟨h124, e124⟩ : ∃ z, T124.heap = z := ⟨_, rfl⟩
          rw [e124] at hQ124
          obtain ⟨rfl, Nq124, Kq124, hz124⟩ := hQ124
          have N124 := Fr.app N121 Nq124
          have Z124 : n0 ≤ h124.size := Nat.le_trans Z121 Kq124.1
          have f125 := f122.keep Kq124
          have f126 := f123.keep Kq124 (ninS (Ne.symm ne118) (ninS (Ne.symm ne_ap_at1) (ninS (Ne.symm ne_an_at1) nin0)))
          refine W.s3 (mkF m 173 #[.val (.int xsz), .val (.int xa), .val (.int xb), .val (.int xc), .val (.int xd), .val (.int xn), .val (.int p1), .val (.int p2), .val (.int p3), .val (.int xq), .val (.ref b101), .val (.ref at1), .val (.int (-1 : Int32)), .val (.int (-1 : Int32)), .val (.int (1 : Int32)), .val (.int (1 : Int32)), .unset, .unset, .unset] []) st124 ?_
          rcases hz124 with hz124 | hz124
          · have H124 := hz124.2
            have hm124 : p1 = xq := List.mem_singleton.mp hz124.1
            refine W.s1 (mkF m 175 #[.val (.int xsz), .val (.int xa), .val (.int xb), .val (.int xc), .val (.int xd), .val (.int xn), .val (.int p1), .val (.int p2), .val (.int p3), .val (.int xq), .val (.ref b101), .val (.ref at1), .val (.int (-1 : Int32)), .val (.int (-1 : Int32)), .val (.int (1 : Int32)), .val (.int (1 : Int32)), .unset, .unset, .unset] [(.ref b101)]) (fun _ kx_ => XS.aload X124.here hx rfl (hb hby at_173) rfl rfl kx_) ?_
            have Zo_175 := Z124
            have hge_at2 : ap < h124.size ∧ an < h124.size := by obtain ⟨_, _, _, _, _, _, _, q1, q2, _⟩ := H124; exact ⟨q1.lt, q2.lt⟩
            obtain ⟨cq127, kq127, q127a, q127b, q127c⟩ := isOf hZ e124 f125
            obtain ⟨_, _, ⟨T127, L127, k127, n127⟩, -, X127, ⟨Lc127, hQ127, l127, y127, z127⟩, st127⟩ := X124.virtualBack hx (y := (⟨"com/example/tempora/tempora/NotedPoints", "take", "()[I"⟩ : MethodName)) (z := (⟨"com/example/tempora/tempora/NotedPoints", "take", "()[I"⟩ : MethodName)) hown (mvT hZ (hw _ (List.mem_of_getElem? (i := 23) rfl))) (mvT hZ (hw _ (List.mem_of_getElem? (i := 24) rfl))) (notFace_of_selects (args := #[]) (mvT hZ (hw _ (List.mem_of_getElem? (i := 26) rfl)))) (mvT hZ (hw _ (List.mem_of_getElem? (i := 26) rfl))) (mvT hZ (hw _ (List.mem_of_getElem? (i := 25) rfl))) (by decide) (backOf (W := 0) (rm4 l Z a0 hw [] b101 ap an n xn [xq] h124 n0 Z124 hn hn8 (by show 1 ≤ n; skip; omega) H124 hp4 hp5 hp3 ge101 ge_ap ge_an) hZ (hw _ (List.mem_of_getElem? (i := 27) rfl)) (hw _ (List.mem_of_getElem? (i := 3) rfl)) (by decide) (by decide)) q127a q127c (g := (mkF m 175 #[.val (.int xsz), .val (.int xa), .val (.int xb), .val (.int xc), .val (.int xd), .val (.int xn), .val (.int p1), .val (.int p2), .val (.int p3), .val (.int xq), .val (.ref b101), .val (.ref at1), .val (.int (-1 : Int32)), .val (.int (-1 : Int32)), .val (.int (1 : Int32)), .val (.int (1 : Int32)), .unset, .unset, .unset] [(.ref b101)])) rfl (by rw [hml]; rfl) (Steps.refl _) (argsL := []) (rest := []) (lenOf pd_4 rfl) rfl (by show 2 * 0 + _ ≤ _; exact Nat.le_of_eq rfl) (hb hby at_175) (fun _ _ => ⟨rfl, e124, (by decide : 4 + 1 ≤ _), (by decide : 27 + 8 ≤ _)⟩)
            dsimp only [Pt.U, Pt.locs, Pt.cells, Pt.slots] at X127 l127 y127 z127 st127 hQ127
            subst l127 y127 z127
            obtain ⟨h127, e127⟩ : ∃ z, T127.heap = z := ⟨_, rfl⟩
            rw [e127] at hQ127
            obtain ⟨at2, rfl, Nq127, Kq127, hgtat2, hltat2, A127, H127⟩ := hQ127
            have N127 := Fr.app N124 Nq127
            have Z127 : n0 ≤ h127.size := Nat.le_trans Z124 Kq127.1
            have f128 := f125.keep Kq127
            have f129 := f126.keep Kq127 (ninS (Ne.symm ne118) (ninS (Ne.symm ne_ap_at1) (ninS (Ne.symm ne_an_at1) nin0)))
            have ne130 : b101 ≠ at2 := Nat.ne_of_lt (Nat.lt_of_lt_of_le f125.lt hgtat2)
            have ne131 : at1 ≠ at2 := Nat.ne_of_lt (Nat.lt_of_lt_of_le f126.lt hgtat2)
            have ge132 : n0 ≤ at2 := Nat.le_trans Zo_175 hgtat2
            have ne_ap_at2 : ap ≠ at2 := Nat.ne_of_lt (Nat.lt_of_lt_of_le hge_at2.1 hgtat2)
            have ne_an_at2 : an ≠ at2 := Nat.ne_of_lt (Nat.lt_of_lt_of_le hge_at2.2 hgtat2)
            refine W.s3 (mkF m 178 #[.val (.int xsz), .val (.int xa), .val (.int xb), .val (.int xc), .val (.int xd), .val (.int xn), .val (.int p1), .val (.int p2), .val (.int p3), .val (.int xq), .val (.ref b101), .val (.ref at1), .val (.int (-1 : Int32)), .val (.int (-1 : Int32)), .val (.int (1 : Int32)), .val (.int (1 : Int32)), .unset, .unset, .unset] [(.ref at2)]) st127 ?_
            refine W.s1 (mkF m 180 #[.val (.int xsz), .val (.int xa), .val (.int xb), .val (.int xc), .val (.int xd), .val (.int xn), .val (.int p1), .val (.int p2), .val (.int p3), .val (.int xq), .val (.ref b101), .val (.ref at1), .val (.int (-1 : Int32)), .val (.int (-1 : Int32)), .val (.int (1 : Int32)), .val (.int (1 : Int32)), .val (.ref at2), .unset, .unset] []) (fun _ kx_ => XS.astore X127.here hx rfl (hb hby at_178) rfl rfl (l' := #[.val (.int xsz), .val (.int xa), .val (.int xb), .val (.int xc), .val (.int xd), .val (.int xn), .val (.int p1), .val (.int p2), .val (.int p3), .val (.int xq), .val (.ref b101), .val (.ref at1), .val (.int (-1 : Int32)), .val (.int (-1 : Int32)), .val (.int (1 : Int32)), .val (.int (1 : Int32)), .val (.ref at2), .unset, .unset]) rfl kx_) ?_
            refine W.s1 (mkF m 182 #[.val (.int xsz), .val (.int xa), .val (.int xb), .val (.int xc), .val (.int xd), .val (.int xn), .val (.int p1), .val (.int p2), .val (.int p3), .val (.int xq), .val (.ref b101), .val (.ref at1), .val (.int (-1 : Int32)), .val (.int (-1 : Int32)), .val (.int (1 : Int32)), .val (.int (1 : Int32)), .val (.ref at2), .unset, .unset] [(.int xq)]) (fun _ kx_ => XS.iload X127.here hx rfl (hb hby at_180) rfl kx_) ?_
            refine W.s1 (mkF m 184 #[.val (.int xsz), .val (.int xa), .val (.int xb), .val (.int xc), .val (.int xd), .val (.int xn), .val (.int p1), .val (.int p2), .val (.int p3), .val (.int xq), .val (.ref b101), .val (.ref at1), .val (.int (-1 : Int32)), .val (.int (-1 : Int32)), .val (.int (1 : Int32)), .val (.int (1 : Int32)), .val (.ref at2), .unset, .unset] [(.int p1), (.int xq)]) (fun _ kx_ => XS.iload X127.here hx rfl (hb hby at_182) rfl kx_) ?_
            refine W.icmp X127 hx (hb hby at_184) (pc' := 191) (pc'' := 187) (by decide) (by decide) rfl (fun (c184 : ¬ xq = p1) => ?_) (fun (c184 : xq = p1) => ?_)
            · exact absurd hm124.symm c184
            · refine W.s1 (mkF m 188 #[.val (.int xsz), .val (.int xa), .val (.int xb), .val (.int xc), .val (.int xd), .val (.int xn), .val (.int p1), .val (.int p2), .val (.int p3), .val (.int xq), .val (.ref b101), .val (.ref at1), .val (.int (-1 : Int32)), .val (.int (-1 : Int32)), .val (.int (1 : Int32)), .val (.int (1 : Int32)), .val (.ref at2), .unset, .unset] [(.int (1 : Int32))]) (fun _ kx_ => XS.iconst X127.here hx rfl (hb hby at_187) kx_) ?_
              refine W.s1 (mkF m 192 #[.val (.int xsz), .val (.int xa), .val (.int xb), .val (.int xc), .val (.int xd), .val (.int xn), .val (.int p1), .val (.int p2), .val (.int p3), .val (.int xq), .val (.ref b101), .val (.ref at1), .val (.int (-1 : Int32)), .val (.int (-1 : Int32)), .val (.int (1 : Int32)), .val (.int (1 : Int32)), .val (.ref at2), .unset, .unset] [(.int (1 : Int32))]) (fun _ kx_ => XS.goto X127.here hx rfl (pc0 := 188) (pc' := 192) rfl (hb hby at_188) (by decide) (by decide) kx_) ?_
              refine W.s1 (mkF m 194 #[.val (.int xsz), .val (.int xa), .val (.int xb), .val (.int xc), .val (.int xd), .val (.int xn), .val (.int p1), .val (.int p2), .val (.int p3), .val (.int xq), .val (.ref b101), .val (.ref at1), .val (.int (-1 : Int32)), .val (.int (-1 : Int32)), .val (.int (1 : Int32)), .val (.int (1 : Int32)), .val (.ref at2), .val (.int (1 : Int32)), .unset] []) (fun _ kx_ => XS.istore X127.here hx rfl (hb hby at_192) rfl (l' := #[.val (.int xsz), .val (.int xa), .val (.int xb), .val (.int xc), .val (.int xd), .val (.int xn), .val (.int p1), .val (.int p2), .val (.int p3), .val (.int xq), .val (.ref b101), .val (.ref at1), .val (.int (-1 : Int32)), .val (.int (-1 : Int32)), .val (.int (1 : Int32)), .val (.int (1 : Int32)), .val (.ref at2), .val (.int (1 : Int32)), .unset]) rfl kx_) ?_
              refine W.s1 (mkF m 196 #[.val (.int xsz), .val (.int xa), .val (.int xb), .val (.int xc), .val (.int xd), .val (.int xn), .val (.int p1), .val (.int p2), .val (.int p3), .val (.int xq), .val (.ref b101), .val (.ref at1), .val (.int (-1 : Int32)), .val (.int (-1 : Int32)), .val (.int (1 : Int32)), .val (.int (1 : Int32)), .val (.ref at2), .val (.int (1 : Int32)), .unset] [(.ref at2)]) (fun _ kx_ => XS.aload X127.here hx rfl (hb hby at_194) rfl rfl kx_) ?_
              refine W.s1 (mkF m 198 #[.val (.int xsz), .val (.int xa), .val (.int xb), .val (.int xc), .val (.int xd), .val (.int xn), .val (.int p1), .val (.int p2), .val (.int p3), .val (.int xq), .val (.ref b101), .val (.ref at1), .val (.int (-1 : Int32)), .val (.int (-1 : Int32)), .val (.int (1 : Int32)), .val (.int (1 : Int32)), .val (.ref at2), .val (.int (1 : Int32)), .unset] [(.int (1 : Int32)), (.ref at2)]) (fun _ kx_ => XS.iload X127.here hx rfl (hb hby at_196) rfl kx_) ?_
              refine W.s1 (mkF m 200 #[.val (.int xsz), .val (.int xa), .val (.int xb), .val (.int xc), .val (.int xd), .val (.int xn), .val (.int p1), .val (.int p2), .val (.int p3), .val (.int xq), .val (.ref b101), .val (.ref at1), .val (.int (-1 : Int32)), .val (.int (-1 : Int32)), .val (.int (1 : Int32)), .val (.int (1 : Int32)), .val (.ref at2), .val (.int (1 : Int32)), .unset] [(.int xq), (.int (1 : Int32)), (.ref at2)]) (fun _ kx_ => XS.iload X127.here hx rfl (hb hby at_198) rfl kx_) ?_
              refine W.s1 (mkF m 202 #[.val (.int xsz), .val (.int xa), .val (.int xb), .val (.int xc), .val (.int xd), .val (.int xn), .val (.int p1), .val (.int p2), .val (.int p3), .val (.int xq), .val (.ref b101), .val (.ref at1), .val (.int (-1 : Int32)), .val (.int (-1 : Int32)), .val (.int (1 : Int32)), .val (.int (1 : Int32)), .val (.ref at2), .val (.int (1 : Int32)), .unset] [(.int p1), (.int xq), (.int (1 : Int32)), (.ref at2)]) (fun _ kx_ => XS.iload X127.here hx rfl (hb hby at_200) rfl kx_) ?_
              refine W.s1 (mkF m 203 #[.val (.int xsz), .val (.int xa), .val (.int xb), .val (.int xc), .val (.int xd), .val (.int xn), .val (.int p1), .val (.int p2), .val (.int p3), .val (.int xq), .val (.ref b101), .val (.ref at1), .val (.int (-1 : Int32)), .val (.int (-1 : Int32)), .val (.int (1 : Int32)), .val (.int (1 : Int32)), .val (.ref at2), .val (.int (1 : Int32)), .unset] [(.int (-1 : Int32)), (.int p1), (.int xq), (.int (1 : Int32)), (.ref at2)]) (fun _ kx_ => XS.iconst X127.here hx rfl (hb hby at_202) kx_) ?_
              obtain ⟨_, _, ⟨T133, L133, k133, n133⟩, -, X133, ⟨Lc133, hQ133, l133, y133, z133⟩, st133⟩ := Jvm.LawKit.callS X127 hx (y := (⟨"com/example/tempora/tempora/NotedPointsNotePinLaw", "same", "([IIIII)Z"⟩ : MethodName)) hown (mvT hZ (hw _ (List.mem_of_getElem? (i := 46) rfl))) (mvT hZ (hw _ (List.mem_of_getElem? (i := 47) rfl))) (mvT hZ (hw _ (List.mem_of_getElem? (i := 48) rfl))) (mvT hZ (hw _ (List.mem_of_getElem? (i := 49) rfl))) (by decide) (backOf (W := 0) (rm7 l Z a0 hw [] at2 (1 : Int32) xq p1 (-1 : Int32) 1 (fun i => [xq].getD i 0) h127 n0 Z127 A127 rfl (fun _ => rfl) (fun q => absurd q (by decide)) (fun q => absurd q (by decide))) hZ (hw _ (List.mem_of_getElem? (i := 49) rfl)) (hw _ (List.mem_of_getElem? (i := 48) rfl)) (by decide) (by decide)) (g := (mkF m 203 #[.val (.int xsz), .val (.int xa), .val (.int xb), .val (.int xc), .val (.int xd), .val (.int xn), .val (.int p1), .val (.int p2), .val (.int p3), .val (.int xq), .val (.ref b101), .val (.ref at1), .val (.int (-1 : Int32)), .val (.int (-1 : Int32)), .val (.int (1 : Int32)), .val (.int (1 : Int32)), .val (.ref at2), .val (.int (1 : Int32)), .unset] [(.int (-1 : Int32)), (.int p1), (.int xq), (.int (1 : Int32)), (.ref at2)])) rfl (by rw [hml]; rfl) (argsL := [(.ref at2), (.int (1 : Int32)), (.int xq), (.int p1), (.int (-1 : Int32))]) (rest := []) (lenOf pd_5 rfl) rfl (by show 2 * 0 + _ ≤ _; exact Nat.le_of_eq rfl) (hb hby at_203) (fun _ _ => ⟨rfl, e127, (by decide : 5 + 0 ≤ _), (by decide : 35 + 0 ≤ _)⟩)
              dsimp only [Pt.U, Pt.locs, Pt.cells, Pt.slots] at X133 l133 y133 z133 st133 hQ133
              subst l133 y133 z133
              obtain ⟨rfl, Nq133, eq133⟩ := hQ133
              have N133 := Fr.app N127 Nq133
              refine W.s2 (mkF m 206 #[.val (.int xsz), .val (.int xa), .val (.int xb), .val (.int xc), .val (.int xd), .val (.int xn), .val (.int p1), .val (.int p2), .val (.int p3), .val (.int xq), .val (.ref b101), .val (.ref at1), .val (.int (-1 : Int32)), .val (.int (-1 : Int32)), .val (.int (1 : Int32)), .val (.int (1 : Int32)), .val (.ref at2), .val (.int (1 : Int32)), .unset] [(.int (1 : Int32))]) st133 ?_
              refine W.s1 (mkF m 208 #[.val (.int xsz), .val (.int xa), .val (.int xb), .val (.int xc), .val (.int xd), .val (.int xn), .val (.int p1), .val (.int p2), .val (.int p3), .val (.int xq), .val (.ref b101), .val (.ref at1), .val (.int (-1 : Int32)), .val (.int (-1 : Int32)), .val (.int (1 : Int32)), .val (.int (1 : Int32)), .val (.ref at2), .val (.int (1 : Int32)), .val (.int (1 : Int32))] []) (fun _ kx_ => XS.istore X133.here hx rfl (hb hby at_206) rfl (l' := #[.val (.int xsz), .val (.int xa), .val (.int xb), .val (.int xc), .val (.int xd), .val (.int xn), .val (.int p1), .val (.int p2), .val (.int p3), .val (.int xq), .val (.ref b101), .val (.ref at1), .val (.int (-1 : Int32)), .val (.int (-1 : Int32)), .val (.int (1 : Int32)), .val (.int (1 : Int32)), .val (.ref at2), .val (.int (1 : Int32)), .val (.int (1 : Int32))]) rfl kx_) ?_
              refine W.s1 (mkF m 210 #[.val (.int xsz), .val (.int xa), .val (.int xb), .val (.int xc), .val (.int xd), .val (.int xn), .val (.int p1), .val (.int p2), .val (.int p3), .val (.int xq), .val (.ref b101), .val (.ref at1), .val (.int (-1 : Int32)), .val (.int (-1 : Int32)), .val (.int (1 : Int32)), .val (.int (1 : Int32)), .val (.ref at2), .val (.int (1 : Int32)), .val (.int (1 : Int32))] [(.int (1 : Int32))]) (fun _ kx_ => XS.iload X133.here hx rfl (hb hby at_208) rfl kx_) ?_
              refine W.ifc X133 hx (hb hby at_210) (pc' := 222) (pc'' := 213) (by decide) (by decide) rfl (fun (c210 : (1 : Int32) = (0 : Int32)) => ?_) (fun (c210 : ¬ (1 : Int32) = (0 : Int32)) => ?_)
              · exact absurd c210 (by decide)
              · refine W.s1 (mkF m 215 #[.val (.int xsz), .val (.int xa), .val (.int xb), .val (.int xc), .val (.int xd), .val (.int xn), .val (.int p1), .val (.int p2), .val (.int p3), .val (.int xq), .val (.ref b101), .val (.ref at1), .val (.int (-1 : Int32)), .val (.int (-1 : Int32)), .val (.int (1 : Int32)), .val (.int (1 : Int32)), .val (.ref at2), .val (.int (1 : Int32)), .val (.int (1 : Int32))] [(.int (1 : Int32))]) (fun _ kx_ => XS.iload X133.here hx rfl (hb hby at_213) rfl kx_) ?_
                refine W.ifc X133 hx (hb hby at_215) (pc' := 222) (pc'' := 218) (by decide) (by decide) rfl (fun (c215 : (1 : Int32) = (0 : Int32)) => ?_) (fun (c215 : ¬ (1 : Int32) = (0 : Int32)) => ?_)
                · exact absurd c215 (by decide)
                · refine W.s1 (mkF m 219 #[.val (.int xsz), .val (.int xa), .val (.int xb), .val (.int xc), .val (.int xd), .val (.int xn), .val (.int p1), .val (.int p2), .val (.int p3), .val (.int xq), .val (.ref b101), .val (.ref at1), .val (.int (-1 : Int32)), .val (.int (-1 : Int32)), .val (.int (1 : Int32)), .val (.int (1 : Int32)), .val (.ref at2), .val (.int (1 : Int32)), .val (.int (1 : Int32))] [(.int (1 : Int32))]) (fun _ kx_ => XS.iconst X133.here hx rfl (hb hby at_218) kx_) ?_
                  refine W.s1 (mkF m 223 #[.val (.int xsz), .val (.int xa), .val (.int xb), .val (.int xc), .val (.int xd), .val (.int xn), .val (.int p1), .val (.int p2), .val (.int p3), .val (.int xq), .val (.ref b101), .val (.ref at1), .val (.int (-1 : Int32)), .val (.int (-1 : Int32)), .val (.int (1 : Int32)), .val (.int (1 : Int32)), .val (.ref at2), .val (.int (1 : Int32)), .val (.int (1 : Int32))] [(.int (1 : Int32))]) (fun _ kx_ => XS.goto X133.here hx rfl (pc0 := 219) (pc' := 223) rfl (hb hby at_219) (by decide) (by decide) kx_) ?_
                  exact W.retZ X133 hx hlk (t := .boolean) (z' := (1 : Int32)) Bd.returns (by simp) (hb hby at_223) rfl (by show Q0 Z xsz xa xb xc xd h0 n0 _ T133.heap _; rw [eq133]; exact ⟨rfl, N133⟩) (by decide) (by decide)
          · have H124 := hz124.2
            have hm124_0 : ¬ p1 = xq := fun q => hz124.1 (by rw [q]; simp)
            refine W.s1 (mkF m 175 #[.val (.int xsz), .val (.int xa), .val (.int xb), .val (.int xc), .val (.int xd), .val (.int xn), .val (.int p1), .val (.int p2), .val (.int p3), .val (.int xq), .val (.ref b101), .val (.ref at1), .val (.int (-1 : Int32)), .val (.int (-1 : Int32)), .val (.int (1 : Int32)), .val (.int (1 : Int32)), .unset, .unset, .unset] [(.ref b101)]) (fun _ kx_ => XS.aload X124.here hx rfl (hb hby at_173) rfl rfl kx_) ?_
            have Zo_175 := Z124
            have hge_at2 : ap < h124.size ∧ an < h124.size := by obtain ⟨_, _, _, _, _, _, _, q1, q2, _⟩ := H124; exact ⟨q1.lt, q2.lt⟩
            obtain ⟨cq134, kq134, q134a, q134b, q134c⟩ := isOf hZ e124 f125
            obtain ⟨_, _, ⟨T134, L134, k134, n134⟩, -, X134, ⟨Lc134, hQ134, l134, y134, z134⟩, st134⟩ := X124.virtualBack hx (y := (⟨"com/example/tempora/tempora/NotedPoints", "take", "()[I"⟩ : MethodName)) (z := (⟨"com/example/tempora/tempora/NotedPoints", "take", "()[I"⟩ : MethodName)) hown (mvT hZ (hw _ (List.mem_of_getElem? (i := 23) rfl))) (mvT hZ (hw _ (List.mem_of_getElem? (i := 24) rfl))) (notFace_of_selects (args := #[]) (mvT hZ (hw _ (List.mem_of_getElem? (i := 26) rfl)))) (mvT hZ (hw _ (List.mem_of_getElem? (i := 26) rfl))) (mvT hZ (hw _ (List.mem_of_getElem? (i := 25) rfl))) (by decide) (backOf (W := 0) (rm4 l Z a0 hw [] b101 ap an n xn [xq, p1] h124 n0 Z124 hn hn8 (by show 2 ≤ n; have := own_ne hm124_0; skip; omega) H124 hp4 hp5 hp3 ge101 ge_ap ge_an) hZ (hw _ (List.mem_of_getElem? (i := 27) rfl)) (hw _ (List.mem_of_getElem? (i := 3) rfl)) (by decide) (by decide)) q134a q134c (g := (mkF m 175 #[.val (.int xsz), .val (.int xa), .val (.int xb), .val (.int xc), .val (.int xd), .val (.int xn), .val (.int p1), .val (.int p2), .val (.int p3), .val (.int xq), .val (.ref b101), .val (.ref at1), .val (.int (-1 : Int32)), .val (.int (-1 : Int32)), .val (.int (1 : Int32)), .val (.int (1 : Int32)), .unset, .unset, .unset] [(.ref b101)])) rfl (by rw [hml]; rfl) (Steps.refl _) (argsL := []) (rest := []) (lenOf pd_4 rfl) rfl (by show 2 * 0 + _ ≤ _; exact Nat.le_of_eq rfl) (hb hby at_175) (fun _ _ => ⟨rfl, e124, (by decide : 4 + 1 ≤ _), (by decide : 27 + 8 ≤ _)⟩)
            dsimp only [Pt.U, Pt.locs, Pt.cells, Pt.slots] at X134 l134 y134 z134 st134 hQ134
            subst l134 y134 z134
            obtain ⟨h134, e134⟩ : ∃ z, T134.heap = z := ⟨_, rfl⟩
            rw [e134] at hQ134
            obtain ⟨at2, rfl, Nq134, Kq134, hgtat2, hltat2, A134, H134⟩ := hQ134
            have N134 := Fr.app N124 Nq134
            have Z134 : n0 ≤ h134.size := Nat.le_trans Z124 Kq134.1
            have f135 := f125.keep Kq134
            have f136 := f126.keep Kq134 (ninS (Ne.symm ne118) (ninS (Ne.symm ne_ap_at1) (ninS (Ne.symm ne_an_at1) nin0)))
            have ne137 : b101 ≠ at2 := Nat.ne_of_lt (Nat.lt_of_lt_of_le f125.lt hgtat2)
            have ne138 : at1 ≠ at2 := Nat.ne_of_lt (Nat.lt_of_lt_of_le f126.lt hgtat2)
            have ge139 : n0 ≤ at2 := Nat.le_trans Zo_175 hgtat2
            have ne_ap_at2 : ap ≠ at2 := Nat.ne_of_lt (Nat.lt_of_lt_of_le hge_at2.1 hgtat2)
            have ne_an_at2 : an ≠ at2 := Nat.ne_of_lt (Nat.lt_of_lt_of_le hge_at2.2 hgtat2)
            refine W.s3 (mkF m 178 #[.val (.int xsz), .val (.int xa), .val (.int xb), .val (.int xc), .val (.int xd), .val (.int xn), .val (.int p1), .val (.int p2), .val (.int p3), .val (.int xq), .val (.ref b101), .val (.ref at1), .val (.int (-1 : Int32)), .val (.int (-1 : Int32)), .val (.int (1 : Int32)), .val (.int (1 : Int32)), .unset, .unset, .unset] [(.ref at2)]) st134 ?_
            refine W.s1 (mkF m 180 #[.val (.int xsz), .val (.int xa), .val (.int xb), .val (.int xc), .val (.int xd), .val (.int xn), .val (.int p1), .val (.int p2), .val (.int p3), .val (.int xq), .val (.ref b101), .val (.ref at1), .val (.int (-1 : Int32)), .val (.int (-1 : Int32)), .val (.int (1 : Int32)), .val (.int (1 : Int32)), .val (.ref at2), .unset, .unset] []) (fun _ kx_ => XS.astore X134.here hx rfl (hb hby at_178) rfl rfl (l' := #[.val (.int xsz), .val (.int xa), .val (.int xb), .val (.int xc), .val (.int xd), .val (.int xn), .val (.int p1), .val (.int p2), .val (.int p3), .val (.int xq), .val (.ref b101), .val (.ref at1), .val (.int (-1 : Int32)), .val (.int (-1 : Int32)), .val (.int (1 : Int32)), .val (.int (1 : Int32)), .val (.ref at2), .unset, .unset]) rfl kx_) ?_
            refine W.s1 (mkF m 182 #[.val (.int xsz), .val (.int xa), .val (.int xb), .val (.int xc), .val (.int xd), .val (.int xn), .val (.int p1), .val (.int p2), .val (.int p3), .val (.int xq), .val (.ref b101), .val (.ref at1), .val (.int (-1 : Int32)), .val (.int (-1 : Int32)), .val (.int (1 : Int32)), .val (.int (1 : Int32)), .val (.ref at2), .unset, .unset] [(.int xq)]) (fun _ kx_ => XS.iload X134.here hx rfl (hb hby at_180) rfl kx_) ?_
            refine W.s1 (mkF m 184 #[.val (.int xsz), .val (.int xa), .val (.int xb), .val (.int xc), .val (.int xd), .val (.int xn), .val (.int p1), .val (.int p2), .val (.int p3), .val (.int xq), .val (.ref b101), .val (.ref at1), .val (.int (-1 : Int32)), .val (.int (-1 : Int32)), .val (.int (1 : Int32)), .val (.int (1 : Int32)), .val (.ref at2), .unset, .unset] [(.int p1), (.int xq)]) (fun _ kx_ => XS.iload X134.here hx rfl (hb hby at_182) rfl kx_) ?_
            refine W.icmp X134 hx (hb hby at_184) (pc' := 191) (pc'' := 187) (by decide) (by decide) rfl (fun (c184 : ¬ xq = p1) => ?_) (fun (c184 : xq = p1) => ?_)
            · refine W.s1 (mkF m 192 #[.val (.int xsz), .val (.int xa), .val (.int xb), .val (.int xc), .val (.int xd), .val (.int xn), .val (.int p1), .val (.int p2), .val (.int p3), .val (.int xq), .val (.ref b101), .val (.ref at1), .val (.int (-1 : Int32)), .val (.int (-1 : Int32)), .val (.int (1 : Int32)), .val (.int (1 : Int32)), .val (.ref at2), .unset, .unset] [(.int (2 : Int32))]) (fun _ kx_ => XS.iconst X134.here hx rfl (hb hby at_191) kx_) ?_
              refine W.s1 (mkF m 194 #[.val (.int xsz), .val (.int xa), .val (.int xb), .val (.int xc), .val (.int xd), .val (.int xn), .val (.int p1), .val (.int p2), .val (.int p3), .val (.int xq), .val (.ref b101), .val (.ref at1), .val (.int (-1 : Int32)), .val (.int (-1 : Int32)), .val (.int (1 : Int32)), .val (.int (1 : Int32)), .val (.ref at2), .val (.int (2 : Int32)), .unset] []) (fun _ kx_ => XS.istore X134.here hx rfl (hb hby at_192) rfl (l' := #[.val (.int xsz), .val (.int xa), .val (.int xb), .val (.int xc), .val (.int xd), .val (.int xn), .val (.int p1), .val (.int p2), .val (.int p3), .val (.int xq), .val (.ref b101), .val (.ref at1), .val (.int (-1 : Int32)), .val (.int (-1 : Int32)), .val (.int (1 : Int32)), .val (.int (1 : Int32)), .val (.ref at2), .val (.int (2 : Int32)), .unset]) rfl kx_) ?_
              refine W.s1 (mkF m 196 #[.val (.int xsz), .val (.int xa), .val (.int xb), .val (.int xc), .val (.int xd), .val (.int xn), .val (.int p1), .val (.int p2), .val (.int p3), .val (.int xq), .val (.ref b101), .val (.ref at1), .val (.int (-1 : Int32)), .val (.int (-1 : Int32)), .val (.int (1 : Int32)), .val (.int (1 : Int32)), .val (.ref at2), .val (.int (2 : Int32)), .unset] [(.ref at2)]) (fun _ kx_ => XS.aload X134.here hx rfl (hb hby at_194) rfl rfl kx_) ?_
              refine W.s1 (mkF m 198 #[.val (.int xsz), .val (.int xa), .val (.int xb), .val (.int xc), .val (.int xd), .val (.int xn), .val (.int p1), .val (.int p2), .val (.int p3), .val (.int xq), .val (.ref b101), .val (.ref at1), .val (.int (-1 : Int32)), .val (.int (-1 : Int32)), .val (.int (1 : Int32)), .val (.int (1 : Int32)), .val (.ref at2), .val (.int (2 : Int32)), .unset] [(.int (2 : Int32)), (.ref at2)]) (fun _ kx_ => XS.iload X134.here hx rfl (hb hby at_196) rfl kx_) ?_
              refine W.s1 (mkF m 200 #[.val (.int xsz), .val (.int xa), .val (.int xb), .val (.int xc), .val (.int xd), .val (.int xn), .val (.int p1), .val (.int p2), .val (.int p3), .val (.int xq), .val (.ref b101), .val (.ref at1), .val (.int (-1 : Int32)), .val (.int (-1 : Int32)), .val (.int (1 : Int32)), .val (.int (1 : Int32)), .val (.ref at2), .val (.int (2 : Int32)), .unset] [(.int xq), (.int (2 : Int32)), (.ref at2)]) (fun _ kx_ => XS.iload X134.here hx rfl (hb hby at_198) rfl kx_) ?_
              refine W.s1 (mkF m 202 #[.val (.int xsz), .val (.int xa), .val (.int xb), .val (.int xc), .val (.int xd), .val (.int xn), .val (.int p1), .val (.int p2), .val (.int p3), .val (.int xq), .val (.ref b101), .val (.ref at1), .val (.int (-1 : Int32)), .val (.int (-1 : Int32)), .val (.int (1 : Int32)), .val (.int (1 : Int32)), .val (.ref at2), .val (.int (2 : Int32)), .unset] [(.int p1), (.int xq), (.int (2 : Int32)), (.ref at2)]) (fun _ kx_ => XS.iload X134.here hx rfl (hb hby at_200) rfl kx_) ?_
              refine W.s1 (mkF m 203 #[.val (.int xsz), .val (.int xa), .val (.int xb), .val (.int xc), .val (.int xd), .val (.int xn), .val (.int p1), .val (.int p2), .val (.int p3), .val (.int xq), .val (.ref b101), .val (.ref at1), .val (.int (-1 : Int32)), .val (.int (-1 : Int32)), .val (.int (1 : Int32)), .val (.int (1 : Int32)), .val (.ref at2), .val (.int (2 : Int32)), .unset] [(.int (-1 : Int32)), (.int p1), (.int xq), (.int (2 : Int32)), (.ref at2)]) (fun _ kx_ => XS.iconst X134.here hx rfl (hb hby at_202) kx_) ?_
              obtain ⟨_, _, ⟨T140, L140, k140, n140⟩, -, X140, ⟨Lc140, hQ140, l140, y140, z140⟩, st140⟩ := Jvm.LawKit.callS X134 hx (y := (⟨"com/example/tempora/tempora/NotedPointsNotePinLaw", "same", "([IIIII)Z"⟩ : MethodName)) hown (mvT hZ (hw _ (List.mem_of_getElem? (i := 46) rfl))) (mvT hZ (hw _ (List.mem_of_getElem? (i := 47) rfl))) (mvT hZ (hw _ (List.mem_of_getElem? (i := 48) rfl))) (mvT hZ (hw _ (List.mem_of_getElem? (i := 49) rfl))) (by decide) (backOf (W := 0) (rm7 l Z a0 hw [] at2 (2 : Int32) xq p1 (-1 : Int32) 2 (fun i => [xq, p1].getD i 0) h134 n0 Z134 A134 rfl (fun _ => rfl) (fun _ => rfl) (fun q => absurd q (by decide))) hZ (hw _ (List.mem_of_getElem? (i := 49) rfl)) (hw _ (List.mem_of_getElem? (i := 48) rfl)) (by decide) (by decide)) (g := (mkF m 203 #[.val (.int xsz), .val (.int xa), .val (.int xb), .val (.int xc), .val (.int xd), .val (.int xn), .val (.int p1), .val (.int p2), .val (.int p3), .val (.int xq), .val (.ref b101), .val (.ref at1), .val (.int (-1 : Int32)), .val (.int (-1 : Int32)), .val (.int (1 : Int32)), .val (.int (1 : Int32)), .val (.ref at2), .val (.int (2 : Int32)), .unset] [(.int (-1 : Int32)), (.int p1), (.int xq), (.int (2 : Int32)), (.ref at2)])) rfl (by rw [hml]; rfl) (argsL := [(.ref at2), (.int (2 : Int32)), (.int xq), (.int p1), (.int (-1 : Int32))]) (rest := []) (lenOf pd_5 rfl) rfl (by show 2 * 0 + _ ≤ _; exact Nat.le_of_eq rfl) (hb hby at_203) (fun _ _ => ⟨rfl, e134, (by decide : 5 + 0 ≤ _), (by decide : 35 + 0 ≤ _)⟩)
              dsimp only [Pt.U, Pt.locs, Pt.cells, Pt.slots] at X140 l140 y140 z140 st140 hQ140
              subst l140 y140 z140
              obtain ⟨rfl, Nq140, eq140⟩ := hQ140
              have N140 := Fr.app N134 Nq140
              refine W.s2 (mkF m 206 #[.val (.int xsz), .val (.int xa), .val (.int xb), .val (.int xc), .val (.int xd), .val (.int xn), .val (.int p1), .val (.int p2), .val (.int p3), .val (.int xq), .val (.ref b101), .val (.ref at1), .val (.int (-1 : Int32)), .val (.int (-1 : Int32)), .val (.int (1 : Int32)), .val (.int (1 : Int32)), .val (.ref at2), .val (.int (2 : Int32)), .unset] [(.int (1 : Int32))]) st140 ?_
              refine W.s1 (mkF m 208 #[.val (.int xsz), .val (.int xa), .val (.int xb), .val (.int xc), .val (.int xd), .val (.int xn), .val (.int p1), .val (.int p2), .val (.int p3), .val (.int xq), .val (.ref b101), .val (.ref at1), .val (.int (-1 : Int32)), .val (.int (-1 : Int32)), .val (.int (1 : Int32)), .val (.int (1 : Int32)), .val (.ref at2), .val (.int (2 : Int32)), .val (.int (1 : Int32))] []) (fun _ kx_ => XS.istore X140.here hx rfl (hb hby at_206) rfl (l' := #[.val (.int xsz), .val (.int xa), .val (.int xb), .val (.int xc), .val (.int xd), .val (.int xn), .val (.int p1), .val (.int p2), .val (.int p3), .val (.int xq), .val (.ref b101), .val (.ref at1), .val (.int (-1 : Int32)), .val (.int (-1 : Int32)), .val (.int (1 : Int32)), .val (.int (1 : Int32)), .val (.ref at2), .val (.int (2 : Int32)), .val (.int (1 : Int32))]) rfl kx_) ?_
              refine W.s1 (mkF m 210 #[.val (.int xsz), .val (.int xa), .val (.int xb), .val (.int xc), .val (.int xd), .val (.int xn), .val (.int p1), .val (.int p2), .val (.int p3), .val (.int xq), .val (.ref b101), .val (.ref at1), .val (.int (-1 : Int32)), .val (.int (-1 : Int32)), .val (.int (1 : Int32)), .val (.int (1 : Int32)), .val (.ref at2), .val (.int (2 : Int32)), .val (.int (1 : Int32))] [(.int (1 : Int32))]) (fun _ kx_ => XS.iload X140.here hx rfl (hb hby at_208) rfl kx_) ?_
              refine W.ifc X140 hx (hb hby at_210) (pc' := 222) (pc'' := 213) (by decide) (by decide) rfl (fun (c210 : (1 : Int32) = (0 : Int32)) => ?_) (fun (c210 : ¬ (1 : Int32) = (0 : Int32)) => ?_)
              · exact absurd c210 (by decide)
              · refine W.s1 (mkF m 215 #[.val (.int xsz), .val (.int xa), .val (.int xb), .val (.int xc), .val (.int xd), .val (.int xn), .val (.int p1), .val (.int p2), .val (.int p3), .val (.int xq), .val (.ref b101), .val (.ref at1), .val (.int (-1 : Int32)), .val (.int (-1 : Int32)), .val (.int (1 : Int32)), .val (.int (1 : Int32)), .val (.ref at2), .val (.int (2 : Int32)), .val (.int (1 : Int32))] [(.int (1 : Int32))]) (fun _ kx_ => XS.iload X140.here hx rfl (hb hby at_213) rfl kx_) ?_
                refine W.ifc X140 hx (hb hby at_215) (pc' := 222) (pc'' := 218) (by decide) (by decide) rfl (fun (c215 : (1 : Int32) = (0 : Int32)) => ?_) (fun (c215 : ¬ (1 : Int32) = (0 : Int32)) => ?_)
                · exact absurd c215 (by decide)
                · refine W.s1 (mkF m 219 #[.val (.int xsz), .val (.int xa), .val (.int xb), .val (.int xc), .val (.int xd), .val (.int xn), .val (.int p1), .val (.int p2), .val (.int p3), .val (.int xq), .val (.ref b101), .val (.ref at1), .val (.int (-1 : Int32)), .val (.int (-1 : Int32)), .val (.int (1 : Int32)), .val (.int (1 : Int32)), .val (.ref at2), .val (.int (2 : Int32)), .val (.int (1 : Int32))] [(.int (1 : Int32))]) (fun _ kx_ => XS.iconst X140.here hx rfl (hb hby at_218) kx_) ?_
                  refine W.s1 (mkF m 223 #[.val (.int xsz), .val (.int xa), .val (.int xb), .val (.int xc), .val (.int xd), .val (.int xn), .val (.int p1), .val (.int p2), .val (.int p3), .val (.int xq), .val (.ref b101), .val (.ref at1), .val (.int (-1 : Int32)), .val (.int (-1 : Int32)), .val (.int (1 : Int32)), .val (.int (1 : Int32)), .val (.ref at2), .val (.int (2 : Int32)), .val (.int (1 : Int32))] [(.int (1 : Int32))]) (fun _ kx_ => XS.goto X140.here hx rfl (pc0 := 219) (pc' := 223) rfl (hb hby at_219) (by decide) (by decide) kx_) ?_
                  exact W.retZ X140 hx hlk (t := .boolean) (z' := (1 : Int32)) Bd.returns (by simp) (hb hby at_223) rfl (by show Q0 Z xsz xa xb xc xd h0 n0 _ T140.heap _; rw [eq140]; exact ⟨rfl, N140⟩) (by decide) (by decide)
            · exact absurd c184 (fun q => hm124_0 q.symm)
        · exact absurd hm114 c111
      · exact absurd hm112 c97
    · have H114 := hz114.2
      have hm114_0 : ¬ p3 = p1 := fun q => hz114.1 (by rw [q]; simp)
      have hm114_9 : ¬ p3 = p2 := fun q => hm114_0 (q.trans hm112)
      refine W.s1 (mkF m 79 #[.val (.int xsz), .val (.int xa), .val (.int xb), .val (.int xc), .val (.int xd), .val (.int xn), .val (.int p1), .val (.int p2), .val (.int p3), .val (.int xq), .val (.ref b101), .unset, .unset, .unset, .unset, .unset, .unset, .unset, .unset] [(.ref b101)]) (fun _ kx_ => XS.aload X114.here hx rfl (hb hby at_77) rfl rfl kx_) ?_
      have Zo_79 := Z114
      have hge_at1 : ap < h114.size ∧ an < h114.size := by obtain ⟨_, _, _, _, _, _, _, q1, q2, _⟩ := H114; exact ⟨q1.lt, q2.lt⟩
      obtain ⟨cq141, kq141, q141a, q141b, q141c⟩ := isOf hZ e114 f115
      obtain ⟨_, _, ⟨T141, L141, k141, n141⟩, -, X141, ⟨Lc141, hQ141, l141, y141, z141⟩, st141⟩ := X114.virtualBack hx (y := (⟨"com/example/tempora/tempora/NotedPoints", "take", "()[I"⟩ : MethodName)) (z := (⟨"com/example/tempora/tempora/NotedPoints", "take", "()[I"⟩ : MethodName)) hown (mvT hZ (hw _ (List.mem_of_getElem? (i := 23) rfl))) (mvT hZ (hw _ (List.mem_of_getElem? (i := 24) rfl))) (notFace_of_selects (args := #[]) (mvT hZ (hw _ (List.mem_of_getElem? (i := 26) rfl)))) (mvT hZ (hw _ (List.mem_of_getElem? (i := 26) rfl))) (mvT hZ (hw _ (List.mem_of_getElem? (i := 25) rfl))) (by decide) (backOf (W := 0) (rm4 l Z a0 hw [] b101 ap an n xn [p1, p3] h114 n0 Z114 hn hn8 (by show 2 ≤ n; have := own_ne hm114_0; skip; omega) H114 hp4 hp5 hp3 ge101 ge_ap ge_an) hZ (hw _ (List.mem_of_getElem? (i := 27) rfl)) (hw _ (List.mem_of_getElem? (i := 3) rfl)) (by decide) (by decide)) q141a q141c (g := (mkF m 79 #[.val (.int xsz), .val (.int xa), .val (.int xb), .val (.int xc), .val (.int xd), .val (.int xn), .val (.int p1), .val (.int p2), .val (.int p3), .val (.int xq), .val (.ref b101), .unset, .unset, .unset, .unset, .unset, .unset, .unset, .unset] [(.ref b101)])) rfl (by rw [hml]; rfl) (Steps.refl _) (argsL := []) (rest := []) (lenOf pd_4 rfl) rfl (by show 2 * 0 + _ ≤ _; exact Nat.le_of_eq rfl) (hb hby at_79) (fun _ _ => ⟨rfl, e114, (by decide : 3 + 1 ≤ _), (by decide : 19 + 8 ≤ _)⟩)
      dsimp only [Pt.U, Pt.locs, Pt.cells, Pt.slots] at X141 l141 y141 z141 st141 hQ141
      subst l141 y141 z141
      obtain ⟨h141, e141⟩ : ∃ z, T141.heap = z := ⟨_, rfl⟩
      rw [e141] at hQ141
      obtain ⟨at1, rfl, Nq141, Kq141, hgtat1, hltat1, A141, H141⟩ := hQ141
      have N141 := Fr.app N114 Nq141
      have Z141 : n0 ≤ h141.size := Nat.le_trans Z114 Kq141.1
      have f142 := f115.keep Kq141
      have ne143 : b101 ≠ at1 := Nat.ne_of_lt (Nat.lt_of_lt_of_le f115.lt hgtat1)
      have ge144 : n0 ≤ at1 := Nat.le_trans Zo_79 hgtat1
      have ne_ap_at1 : ap ≠ at1 := Nat.ne_of_lt (Nat.lt_of_lt_of_le hge_at1.1 hgtat1)
      have ne_an_at1 : an ≠ at1 := Nat.ne_of_lt (Nat.lt_of_lt_of_le hge_at1.2 hgtat1)
      refine W.s3 (mkF m 82 #[.val (.int xsz), .val (.int xa), .val (.int xb), .val (.int xc), .val (.int xd), .val (.int xn), .val (.int p1), .val (.int p2), .val (.int p3), .val (.int xq), .val (.ref b101), .unset, .unset, .unset, .unset, .unset, .unset, .unset, .unset] [(.ref at1)]) st141 ?_
      refine W.s1 (mkF m 84 #[.val (.int xsz), .val (.int xa), .val (.int xb), .val (.int xc), .val (.int xd), .val (.int xn), .val (.int p1), .val (.int p2), .val (.int p3), .val (.int xq), .val (.ref b101), .val (.ref at1), .unset, .unset, .unset, .unset, .unset, .unset, .unset] []) (fun _ kx_ => XS.astore X141.here hx rfl (hb hby at_82) rfl rfl (l' := #[.val (.int xsz), .val (.int xa), .val (.int xb), .val (.int xc), .val (.int xd), .val (.int xn), .val (.int p1), .val (.int p2), .val (.int p3), .val (.int xq), .val (.ref b101), .val (.ref at1), .unset, .unset, .unset, .unset, .unset, .unset, .unset]) rfl kx_) ?_
      refine W.s1 (mkF m 85 #[.val (.int xsz), .val (.int xa), .val (.int xb), .val (.int xc), .val (.int xd), .val (.int xn), .val (.int p1), .val (.int p2), .val (.int p3), .val (.int xq), .val (.ref b101), .val (.ref at1), .unset, .unset, .unset, .unset, .unset, .unset, .unset] [(.int (-1 : Int32))]) (fun _ kx_ => XS.iconst X141.here hx rfl (hb hby at_84) kx_) ?_
      refine W.s1 (mkF m 87 #[.val (.int xsz), .val (.int xa), .val (.int xb), .val (.int xc), .val (.int xd), .val (.int xn), .val (.int p1), .val (.int p2), .val (.int p3), .val (.int xq), .val (.ref b101), .val (.ref at1), .val (.int (-1 : Int32)), .unset, .unset, .unset, .unset, .unset, .unset] []) (fun _ kx_ => XS.istore X141.here hx rfl (hb hby at_85) rfl (l' := #[.val (.int xsz), .val (.int xa), .val (.int xb), .val (.int xc), .val (.int xd), .val (.int xn), .val (.int p1), .val (.int p2), .val (.int p3), .val (.int xq), .val (.ref b101), .val (.ref at1), .val (.int (-1 : Int32)), .unset, .unset, .unset, .unset, .unset, .unset]) rfl kx_) ?_
      refine W.s1 (mkF m 88 #[.val (.int xsz), .val (.int xa), .val (.int xb), .val (.int xc), .val (.int xd), .val (.int xn), .val (.int p1), .val (.int p2), .val (.int p3), .val (.int xq), .val (.ref b101), .val (.ref at1), .val (.int (-1 : Int32)), .unset, .unset, .unset, .unset, .unset, .unset] [(.int (-1 : Int32))]) (fun _ kx_ => XS.iconst X141.here hx rfl (hb hby at_87) kx_) ?_
      refine W.s1 (mkF m 90 #[.val (.int xsz), .val (.int xa), .val (.int xb), .val (.int xc), .val (.int xd), .val (.int xn), .val (.int p1), .val (.int p2), .val (.int p3), .val (.int xq), .val (.ref b101), .val (.ref at1), .val (.int (-1 : Int32)), .val (.int (-1 : Int32)), .unset, .unset, .unset, .unset, .unset] []) (fun _ kx_ => XS.istore X141.here hx rfl (hb hby at_88) rfl (l' := #[.val (.int xsz), .val (.int xa), .val (.int xb), .val (.int xc), .val (.int xd), .val (.int xn), .val (.int p1), .val (.int p2), .val (.int p3), .val (.int xq), .val (.ref b101), .val (.ref at1), .val (.int (-1 : Int32)), .val (.int (-1 : Int32)), .unset, .unset, .unset, .unset, .unset]) rfl kx_) ?_
      refine W.s1 (mkF m 91 #[.val (.int xsz), .val (.int xa), .val (.int xb), .val (.int xc), .val (.int xd), .val (.int xn), .val (.int p1), .val (.int p2), .val (.int p3), .val (.int xq), .val (.ref b101), .val (.ref at1), .val (.int (-1 : Int32)), .val (.int (-1 : Int32)), .unset, .unset, .unset, .unset, .unset] [(.int (1 : Int32))]) (fun _ kx_ => XS.iconst X141.here hx rfl (hb hby at_90) kx_) ?_
      refine W.s1 (mkF m 93 #[.val (.int xsz), .val (.int xa), .val (.int xb), .val (.int xc), .val (.int xd), .val (.int xn), .val (.int p1), .val (.int p2), .val (.int p3), .val (.int xq), .val (.ref b101), .val (.ref at1), .val (.int (-1 : Int32)), .val (.int (-1 : Int32)), .val (.int (1 : Int32)), .unset, .unset, .unset, .unset] []) (fun _ kx_ => XS.istore X141.here hx rfl (hb hby at_91) rfl (l' := #[.val (.int xsz), .val (.int xa), .val (.int xb), .val (.int xc), .val (.int xd), .val (.int xn), .val (.int p1), .val (.int p2), .val (.int p3), .val (.int xq), .val (.ref b101), .val (.ref at1), .val (.int (-1 : Int32)), .val (.int (-1 : Int32)), .val (.int (1 : Int32)), .unset, .unset, .unset, .unset]) rfl kx_) ?_
      refine W.s1 (mkF m 95 #[.val (.int xsz), .val (.int xa), .val (.int xb), .val (.int xc), .val (.int xd), .val (.int xn), .val (.int p1), .val (.int p2), .val (.int p3), .val (.int xq), .val (.ref b101), .val (.ref at1), .val (.int (-1 : Int32)), .val (.int (-1 : Int32)), .val (.int (1 : Int32)), .unset, .unset, .unset, .unset] [(.int p2)]) (fun _ kx_ => XS.iload X141.here hx rfl (hb hby at_93) rfl kx_) ?_
      refine W.s1 (mkF m 97 #[.val (.int xsz), .val (.int xa), .val (.int xb), .val (.int xc), .val (.int xd), .val (.int xn), .val (.int p1), .val (.int p2), .val (.int p3), .val (.int xq), .val (.ref b101), .val (.ref at1), .val (.int (-1 : Int32)), .val (.int (-1 : Int32)), .val (.int (1 : Int32)), .unset, .unset, .unset, .unset] [(.int p1), (.int p2)]) (fun _ kx_ => XS.iload X141.here hx rfl (hb hby at_95) rfl kx_) ?_
      refine W.icmp X141 hx (hb hby at_97) (pc' := 107) (pc'' := 100) (by decide) (by decide) rfl (fun (c97 : p2 = p1) => ?_) (fun (c97 : ¬ p2 = p1) => ?_)
      · refine W.s1 (mkF m 109 #[.val (.int xsz), .val (.int xa), .val (.int xb), .val (.int xc), .val (.int xd), .val (.int xn), .val (.int p1), .val (.int p2), .val (.int p3), .val (.int xq), .val (.ref b101), .val (.ref at1), .val (.int (-1 : Int32)), .val (.int (-1 : Int32)), .val (.int (1 : Int32)), .unset, .unset, .unset, .unset] [(.int p3)]) (fun _ kx_ => XS.iload X141.here hx rfl (hb hby at_107) rfl kx_) ?_
        refine W.s1 (mkF m 111 #[.val (.int xsz), .val (.int xa), .val (.int xb), .val (.int xc), .val (.int xd), .val (.int xn), .val (.int p1), .val (.int p2), .val (.int p3), .val (.int xq), .val (.ref b101), .val (.ref at1), .val (.int (-1 : Int32)), .val (.int (-1 : Int32)), .val (.int (1 : Int32)), .unset, .unset, .unset, .unset] [(.int p1), (.int p3)]) (fun _ kx_ => XS.iload X141.here hx rfl (hb hby at_109) rfl kx_) ?_
        refine W.icmp X141 hx (hb hby at_111) (pc' := 144) (pc'' := 114) (by decide) (by decide) rfl (fun (c111 : p3 = p1) => ?_) (fun (c111 : ¬ p3 = p1) => ?_)
        · exact absurd c111 hm114_0
        · refine W.s1 (mkF m 116 #[.val (.int xsz), .val (.int xa), .val (.int xb), .val (.int xc), .val (.int xd), .val (.int xn), .val (.int p1), .val (.int p2), .val (.int p3), .val (.int xq), .val (.ref b101), .val (.ref at1), .val (.int (-1 : Int32)), .val (.int (-1 : Int32)), .val (.int (1 : Int32)), .unset, .unset, .unset, .unset] [(.int p3)]) (fun _ kx_ => XS.iload X141.here hx rfl (hb hby at_114) rfl kx_) ?_
          refine W.s1 (mkF m 118 #[.val (.int xsz), .val (.int xa), .val (.int xb), .val (.int xc), .val (.int xd), .val (.int xn), .val (.int p1), .val (.int p2), .val (.int p3), .val (.int xq), .val (.ref b101), .val (.ref at1), .val (.int (-1 : Int32)), .val (.int (-1 : Int32)), .val (.int (1 : Int32)), .unset, .unset, .unset, .unset] [(.int p2), (.int p3)]) (fun _ kx_ => XS.iload X141.here hx rfl (hb hby at_116) rfl kx_) ?_
          refine W.icmp X141 hx (hb hby at_118) (pc' := 144) (pc'' := 121) (by decide) (by decide) rfl (fun (c118 : p3 = p2) => ?_) (fun (c118 : ¬ p3 = p2) => ?_)
          · exact absurd c118 hm114_9
          · refine W.s1 (mkF m 123 #[.val (.int xsz), .val (.int xa), .val (.int xb), .val (.int xc), .val (.int xd), .val (.int xn), .val (.int p1), .val (.int p2), .val (.int p3), .val (.int xq), .val (.ref b101), .val (.ref at1), .val (.int (-1 : Int32)), .val (.int (-1 : Int32)), .val (.int (1 : Int32)), .unset, .unset, .unset, .unset] [(.int (1 : Int32))]) (fun _ kx_ => XS.iload X141.here hx rfl (hb hby at_121) rfl kx_) ?_
            refine W.s1 (mkF m 124 #[.val (.int xsz), .val (.int xa), .val (.int xb), .val (.int xc), .val (.int xd), .val (.int xn), .val (.int p1), .val (.int p2), .val (.int p3), .val (.int xq), .val (.ref b101), .val (.ref at1), .val (.int (-1 : Int32)), .val (.int (-1 : Int32)), .val (.int (1 : Int32)), .unset, .unset, .unset, .unset] [(.int (1 : Int32)), (.int (1 : Int32))]) (fun _ kx_ => XS.iconst X141.here hx rfl (hb hby at_123) kx_) ?_
            refine W.icmp X141 hx (hb hby at_124) (pc' := 134) (pc'' := 127) (by decide) (by decide) rfl (fun (c124 : ¬ (1 : Int32) = (1 : Int32)) => ?_) (fun (c124 : (1 : Int32) = (1 : Int32)) => ?_)
            · exact absurd c124 (by decide)
            · refine W.s1 (mkF m 129 #[.val (.int xsz), .val (.int xa), .val (.int xb), .val (.int xc), .val (.int xd), .val (.int xn), .val (.int p1), .val (.int p2), .val (.int p3), .val (.int xq), .val (.ref b101), .val (.ref at1), .val (.int (-1 : Int32)), .val (.int (-1 : Int32)), .val (.int (1 : Int32)), .unset, .unset, .unset, .unset] [(.int p3)]) (fun _ kx_ => XS.iload X141.here hx rfl (hb hby at_127) rfl kx_) ?_
              refine W.s1 (mkF m 131 #[.val (.int xsz), .val (.int xa), .val (.int xb), .val (.int xc), .val (.int xd), .val (.int xn), .val (.int p1), .val (.int p2), .val (.int p3), .val (.int xq), .val (.ref b101), .val (.ref at1), .val (.int p3), .val (.int (-1 : Int32)), .val (.int (1 : Int32)), .unset, .unset, .unset, .unset] []) (fun _ kx_ => XS.istore X141.here hx rfl (hb hby at_129) rfl (l' := #[.val (.int xsz), .val (.int xa), .val (.int xb), .val (.int xc), .val (.int xd), .val (.int xn), .val (.int p1), .val (.int p2), .val (.int p3), .val (.int xq), .val (.ref b101), .val (.ref at1), .val (.int p3), .val (.int (-1 : Int32)), .val (.int (1 : Int32)), .unset, .unset, .unset, .unset]) rfl kx_) ?_
              refine W.s1 (mkF m 138 #[.val (.int xsz), .val (.int xa), .val (.int xb), .val (.int xc), .val (.int xd), .val (.int xn), .val (.int p1), .val (.int p2), .val (.int p3), .val (.int xq), .val (.ref b101), .val (.ref at1), .val (.int p3), .val (.int (-1 : Int32)), .val (.int (1 : Int32)), .unset, .unset, .unset, .unset] []) (fun _ kx_ => XS.goto X141.here hx rfl (pc0 := 131) (pc' := 138) rfl (hb hby at_131) (by decide) (by decide) kx_) ?_
              refine W.s1 (mkF m 140 #[.val (.int xsz), .val (.int xa), .val (.int xb), .val (.int xc), .val (.int xd), .val (.int xn), .val (.int p1), .val (.int p2), .val (.int p3), .val (.int xq), .val (.ref b101), .val (.ref at1), .val (.int p3), .val (.int (-1 : Int32)), .val (.int (1 : Int32)), .unset, .unset, .unset, .unset] [(.int (1 : Int32))]) (fun _ kx_ => XS.iload X141.here hx rfl (hb hby at_138) rfl kx_) ?_
              refine W.s1 (mkF m 141 #[.val (.int xsz), .val (.int xa), .val (.int xb), .val (.int xc), .val (.int xd), .val (.int xn), .val (.int p1), .val (.int p2), .val (.int p3), .val (.int xq), .val (.ref b101), .val (.ref at1), .val (.int p3), .val (.int (-1 : Int32)), .val (.int (1 : Int32)), .unset, .unset, .unset, .unset] [(.int (1 : Int32)), (.int (1 : Int32))]) (fun _ kx_ => XS.iconst X141.here hx rfl (hb hby at_140) kx_) ?_
              refine W.s1 (mkF m 142 #[.val (.int xsz), .val (.int xa), .val (.int xb), .val (.int xc), .val (.int xd), .val (.int xn), .val (.int p1), .val (.int p2), .val (.int p3), .val (.int xq), .val (.ref b101), .val (.ref at1), .val (.int p3), .val (.int (-1 : Int32)), .val (.int (1 : Int32)), .unset, .unset, .unset, .unset] [(.int (2 : Int32))]) (fun _ kx_ => XS.iadd X141.here hx rfl (hb hby at_141) rfl kx_) ?_
              refine W.s1 (mkF m 144 #[.val (.int xsz), .val (.int xa), .val (.int xb), .val (.int xc), .val (.int xd), .val (.int xn), .val (.int p1), .val (.int p2), .val (.int p3), .val (.int xq), .val (.ref b101), .val (.ref at1), .val (.int p3), .val (.int (-1 : Int32)), .val (.int (2 : Int32)), .unset, .unset, .unset, .unset] []) (fun _ kx_ => XS.istore X141.here hx rfl (hb hby at_142) rfl (l' := #[.val (.int xsz), .val (.int xa), .val (.int xb), .val (.int xc), .val (.int xd), .val (.int xn), .val (.int p1), .val (.int p2), .val (.int p3), .val (.int xq), .val (.ref b101), .val (.ref at1), .val (.int p3), .val (.int (-1 : Int32)), .val (.int (2 : Int32)), .unset, .unset, .unset, .unset]) rfl kx_) ?_
              refine W.s1 (mkF m 146 #[.val (.int xsz), .val (.int xa), .val (.int xb), .val (.int xc), .val (.int xd), .val (.int xn), .val (.int p1), .val (.int p2), .val (.int p3), .val (.int xq), .val (.ref b101), .val (.ref at1), .val (.int p3), .val (.int (-1 : Int32)), .val (.int (2 : Int32)), .unset, .unset, .unset, .unset] [(.ref at1)]) (fun _ kx_ => XS.aload X141.here hx rfl (hb hby at_144) rfl rfl kx_) ?_
              refine W.s1 (mkF m 148 #[.val (.int xsz), .val (.int xa), .val (.int xb), .val (.int xc), .val (.int xd), .val (.int xn), .val (.int p1), .val (.int p2), .val (.int p3), .val (.int xq), .val (.ref b101), .val (.ref at1), .val (.int p3), .val (.int (-1 : Int32)), .val (.int (2 : Int32)), .unset, .unset, .unset, .unset] [(.int (2 : Int32)), (.ref at1)]) (fun _ kx_ => XS.iload X141.here hx rfl (hb hby at_146) rfl kx_) ?_
              refine W.s1 (mkF m 150 #[.val (.int xsz), .val (.int xa), .val (.int xb), .val (.int xc), .val (.int xd), .val (.int xn), .val (.int p1), .val (.int p2), .val (.int p3), .val (.int xq), .val (.ref b101), .val (.ref at1), .val (.int p3), .val (.int (-1 : Int32)), .val (.int (2 : Int32)), .unset, .unset, .unset, .unset] [(.int p1), (.int (2 : Int32)), (.ref at1)]) (fun _ kx_ => XS.iload X141.here hx rfl (hb hby at_148) rfl kx_) ?_
              refine W.s1 (mkF m 152 #[.val (.int xsz), .val (.int xa), .val (.int xb), .val (.int xc), .val (.int xd), .val (.int xn), .val (.int p1), .val (.int p2), .val (.int p3), .val (.int xq), .val (.ref b101), .val (.ref at1), .val (.int p3), .val (.int (-1 : Int32)), .val (.int (2 : Int32)), .unset, .unset, .unset, .unset] [(.int p3), (.int p1), (.int (2 : Int32)), (.ref at1)]) (fun _ kx_ => XS.iload X141.here hx rfl (hb hby at_150) rfl kx_) ?_
              refine W.s1 (mkF m 154 #[.val (.int xsz), .val (.int xa), .val (.int xb), .val (.int xc), .val (.int xd), .val (.int xn), .val (.int p1), .val (.int p2), .val (.int p3), .val (.int xq), .val (.ref b101), .val (.ref at1), .val (.int p3), .val (.int (-1 : Int32)), .val (.int (2 : Int32)), .unset, .unset, .unset, .unset] [(.int (-1 : Int32)), (.int p3), (.int p1), (.int (2 : Int32)), (.ref at1)]) (fun _ kx_ => XS.iload X141.here hx rfl (hb hby at_152) rfl kx_) ?_
              obtain ⟨_, _, ⟨T145, L145, k145, n145⟩, -, X145, ⟨Lc145, hQ145, l145, y145, z145⟩, st145⟩ := Jvm.LawKit.callS X141 hx (y := (⟨"com/example/tempora/tempora/NotedPointsNotePinLaw", "same", "([IIIII)Z"⟩ : MethodName)) hown (mvT hZ (hw _ (List.mem_of_getElem? (i := 46) rfl))) (mvT hZ (hw _ (List.mem_of_getElem? (i := 47) rfl))) (mvT hZ (hw _ (List.mem_of_getElem? (i := 48) rfl))) (mvT hZ (hw _ (List.mem_of_getElem? (i := 49) rfl))) (by decide) (backOf (W := 0) (rm7 l Z a0 hw [] at1 (2 : Int32) p1 p3 (-1 : Int32) 2 (fun i => [p1, p3].getD i 0) h141 n0 Z141 A141 rfl (fun _ => rfl) (fun _ => rfl) (fun q => absurd q (by decide))) hZ (hw _ (List.mem_of_getElem? (i := 49) rfl)) (hw _ (List.mem_of_getElem? (i := 48) rfl)) (by decide) (by decide)) (g := (mkF m 154 #[.val (.int xsz), .val (.int xa), .val (.int xb), .val (.int xc), .val (.int xd), .val (.int xn), .val (.int p1), .val (.int p2), .val (.int p3), .val (.int xq), .val (.ref b101), .val (.ref at1), .val (.int p3), .val (.int (-1 : Int32)), .val (.int (2 : Int32)), .unset, .unset, .unset, .unset] [(.int (-1 : Int32)), (.int p3), (.int p1), (.int (2 : Int32)), (.ref at1)])) rfl (by rw [hml]; rfl) (argsL := [(.ref at1), (.int (2 : Int32)), (.int p1), (.int p3), (.int (-1 : Int32))]) (rest := []) (lenOf pd_5 rfl) rfl (by show 2 * 0 + _ ≤ _; exact Nat.le_of_eq rfl) (hb hby at_154) (fun _ _ => ⟨rfl, e141, (by decide : 4 + 0 ≤ _), (by decide : 27 + 0 ≤ _)⟩)
              dsimp only [Pt.U, Pt.locs, Pt.cells, Pt.slots] at X145 l145 y145 z145 st145 hQ145
              subst l145 y145 z145
              obtain ⟨rfl, Nq145, eq145⟩ := hQ145
              have N145 := Fr.app N141 Nq145
              refine W.s2 (mkF m 157 #[.val (.int xsz), .val (.int xa), .val (.int xb), .val (.int xc), .val (.int xd), .val (.int xn), .val (.int p1), .val (.int p2), .val (.int p3), .val (.int xq), .val (.ref b101), .val (.ref at1), .val (.int p3), .val (.int (-1 : Int32)), .val (.int (2 : Int32)), .unset, .unset, .unset, .unset] [(.int (1 : Int32))]) st145 ?_
              refine W.s1 (mkF m 159 #[.val (.int xsz), .val (.int xa), .val (.int xb), .val (.int xc), .val (.int xd), .val (.int xn), .val (.int p1), .val (.int p2), .val (.int p3), .val (.int xq), .val (.ref b101), .val (.ref at1), .val (.int p3), .val (.int (-1 : Int32)), .val (.int (2 : Int32)), .val (.int (1 : Int32)), .unset, .unset, .unset] []) (fun _ kx_ => XS.istore X145.here hx rfl (hb hby at_157) rfl (l' := #[.val (.int xsz), .val (.int xa), .val (.int xb), .val (.int xc), .val (.int xd), .val (.int xn), .val (.int p1), .val (.int p2), .val (.int p3), .val (.int xq), .val (.ref b101), .val (.ref at1), .val (.int p3), .val (.int (-1 : Int32)), .val (.int (2 : Int32)), .val (.int (1 : Int32)), .unset, .unset, .unset]) rfl kx_) ?_
              refine W.s1 (mkF m 161 #[.val (.int xsz), .val (.int xa), .val (.int xb), .val (.int xc), .val (.int xd), .val (.int xn), .val (.int p1), .val (.int p2), .val (.int p3), .val (.int xq), .val (.ref b101), .val (.ref at1), .val (.int p3), .val (.int (-1 : Int32)), .val (.int (2 : Int32)), .val (.int (1 : Int32)), .unset, .unset, .unset] [(.ref b101)]) (fun _ kx_ => XS.aload X145.here hx rfl (hb hby at_159) rfl rfl kx_) ?_
              refine W.s1 (mkF m 163 #[.val (.int xsz), .val (.int xa), .val (.int xb), .val (.int xc), .val (.int xd), .val (.int xn), .val (.int p1), .val (.int p2), .val (.int p3), .val (.int xq), .val (.ref b101), .val (.ref at1), .val (.int p3), .val (.int (-1 : Int32)), .val (.int (2 : Int32)), .val (.int (1 : Int32)), .unset, .unset, .unset] [(.int xq), (.ref b101)]) (fun _ kx_ => XS.iload X145.here hx rfl (hb hby at_161) rfl kx_) ?_
              obtain ⟨cq146, kq146, q146a, q146b, q146c⟩ := isOf hZ eq145 f142
              obtain ⟨_, _, ⟨T146, L146, k146, n146⟩, -, X146, ⟨Lc146, hQ146, l146, y146, z146⟩, st146⟩ := X145.virtualBack hx (y := (⟨"com/example/tempora/tempora/NotedPoints", "note", "(I)V"⟩ : MethodName)) (z := (⟨"com/example/tempora/tempora/NotedPoints", "note", "(I)V"⟩ : MethodName)) hown (mvT hZ (hw _ (List.mem_of_getElem? (i := 16) rfl))) (mvT hZ (hw _ (List.mem_of_getElem? (i := 17) rfl))) (notFace_of_selects (args := #[]) (mvT hZ (hw _ (List.mem_of_getElem? (i := 19) rfl)))) (mvT hZ (hw _ (List.mem_of_getElem? (i := 19) rfl))) (mvT hZ (hw _ (List.mem_of_getElem? (i := 18) rfl))) (by decide) (backOf (W := 0) (rm3 l Z a0 hw [] b101 xq ap an n xn [] k4 h141 n0 Z141 hn hn8 H141 hk4 hl4 (Or.inr hn1) hp4 hp5 hp3 ge101 ge_ap ge_an) hZ (hw _ (List.mem_of_getElem? (i := 20) rfl)) (hw _ (List.mem_of_getElem? (i := 3) rfl)) (by decide) (by decide)) q146a q146c (g := (mkF m 163 #[.val (.int xsz), .val (.int xa), .val (.int xb), .val (.int xc), .val (.int xd), .val (.int xn), .val (.int p1), .val (.int p2), .val (.int p3), .val (.int xq), .val (.ref b101), .val (.ref at1), .val (.int p3), .val (.int (-1 : Int32)), .val (.int (2 : Int32)), .val (.int (1 : Int32)), .unset, .unset, .unset] [(.int xq), (.ref b101)])) rfl (by rw [hml]; rfl) (Steps.refl _) (argsL := [(.int xq)]) (rest := []) (lenOf pd_3 rfl) rfl (by show 2 * 0 + _ ≤ _; exact Nat.le_of_eq rfl) (hb hby at_163) (fun _ _ => ⟨rfl, eq145, (by decide : 4 + 0 ≤ _), (by decide : 27 + 0 ≤ _)⟩)
              dsimp only [Pt.U, Pt.locs, Pt.cells, Pt.slots] at X146 l146 y146 z146 st146 hQ146
              subst l146 y146 z146
              obtain ⟨h146, e146⟩ : ∃ z, T146.heap = z := ⟨_, rfl⟩
              rw [e146] at hQ146
              obtain ⟨rfl, Nq146, Kq146, hz146⟩ := hQ146
              have N146 := Fr.app N145 Nq146
              have Z146 : n0 ≤ h146.size := Nat.le_trans Z141 Kq146.1
              have f147 := f142.keep Kq146
              have f148 := A141.keep Kq146 (ninS (Ne.symm ne143) (ninS (Ne.symm ne_ap_at1) (ninS (Ne.symm ne_an_at1) nin0)))
              have H146 : own_NP Z h146 b101 ap an n [xq] := hz146.elim (fun q => absurd q.1 List.not_mem_nil) (fun q => q.2)
              refine W.s3 (mkF m 166 #[.val (.int xsz), .val (.int xa), .val (.int xb), .val (.int xc), .val (.int xd), .val (.int xn), .val (.int p1), .val (.int p2), .val (.int p3), .val (.int xq), .val (.ref b101), .val (.ref at1), .val (.int p3), .val (.int (-1 : Int32)), .val (.int (2 : Int32)), .val (.int (1 : Int32)), .unset, .unset, .unset] []) st146 ?_
              refine W.s1 (mkF m 168 #[.val (.int xsz), .val (.int xa), .val (.int xb), .val (.int xc), .val (.int xd), .val (.int xn), .val (.int p1), .val (.int p2), .val (.int p3), .val (.int xq), .val (.ref b101), .val (.ref at1), .val (.int p3), .val (.int (-1 : Int32)), .val (.int (2 : Int32)), .val (.int (1 : Int32)), .unset, .unset, .unset] [(.ref b101)]) (fun _ kx_ => XS.aload X146.here hx rfl (hb hby at_166) rfl rfl kx_) ?_
              refine W.s1 (mkF m 170 #[.val (.int xsz), .val (.int xa), .val (.int xb), .val (.int xc), .val (.int xd), .val (.int xn), .val (.int p1), .val (.int p2), .val (.int p3), .val (.int xq), .val (.ref b101), .val (.ref at1), .val (.int p3), .val (.int (-1 : Int32)), .val (.int (2 : Int32)), .val (.int (1 : Int32)), .unset, .unset, .unset] [(.int p1), (.ref b101)]) (fun _ kx_ => XS.iload X146.here hx rfl (hb hby at_168) rfl kx_) ?_
              obtain ⟨cq149, kq149, q149a, q149b, q149c⟩ := isOf hZ e146 f147
              obtain ⟨_, _, ⟨T149, L149, k149, n149⟩, -, X149, ⟨Lc149, hQ149, l149, y149, z149⟩, st149⟩ := X146.virtualBack hx (y := (⟨"com/example/tempora/tempora/NotedPoints", "note", "(I)V"⟩ : MethodName)) (z := (⟨"com/example/tempora/tempora/NotedPoints", "note", "(I)V"⟩ : MethodName)) hown (mvT hZ (hw _ (List.mem_of_getElem? (i := 16) rfl))) (mvT hZ (hw _ (List.mem_of_getElem? (i := 17) rfl))) (notFace_of_selects (args := #[]) (mvT hZ (hw _ (List.mem_of_getElem? (i := 19) rfl)))) (mvT hZ (hw _ (List.mem_of_getElem? (i := 19) rfl))) (mvT hZ (hw _ (List.mem_of_getElem? (i := 18) rfl))) (by decide) (backOf (W := 0) (rm3 l Z a0 hw [] b101 p1 ap an n xn [xq] k1 h146 n0 Z146 hn hn8 H146 hk1 hl1 (if q : p1 ∈ ([xq] : List Int32) then Or.inl q else Or.inr (by simp only [List.mem_cons, List.not_mem_nil, or_false, not_or] at q; have := own_ne q; skip; show 1 < n; omega)) hp4 hp5 hp3 ge101 ge_ap ge_an) hZ (hw _ (List.mem_of_getElem? (i := 20) rfl)) (hw _ (List.mem_of_getElem? (i := 3) rfl)) (by decide) (by decide)) q149a q149c (g := (mkF m 170 #[.val (.int xsz), .val (.int xa), .val (.int xb), .val (.int xc), .val (.int xd), .val (.int xn), .val (.int p1), .val (.int p2), .val (.int p3), .val (.int xq), .val (.ref b101), .val (.ref at1), .val (.int p3), .val (.int (-1 : Int32)), .val (.int (2 : Int32)), .val (.int (1 : Int32)), .unset, .unset, .unset] [(.int p1), (.ref b101)])) rfl (by rw [hml]; rfl) (Steps.refl _) (argsL := [(.int p1)]) (rest := []) (lenOf pd_3 rfl) rfl (by show 2 * 0 + _ ≤ _; exact Nat.le_of_eq rfl) (hb hby at_170) (fun _ _ => ⟨rfl, e146, (by decide : 4 + 0 ≤ _), (by decide : 27 + 0 ≤ _)⟩)
              dsimp only [Pt.U, Pt.locs, Pt.cells, Pt.slots] at X149 l149 y149 z149 st149 hQ149
              subst l149 y149 z149
              obtain ⟨h149, e149⟩ : ∃ z, T149.heap = z := ⟨_, rfl⟩
              rw [e149] at hQ149
              obtain ⟨rfl, Nq149, Kq149, hz149⟩ := hQ149
              have N149 := Fr.app N146 Nq149
              have Z149 : n0 ≤ h149.size := Nat.le_trans Z146 Kq149.1
              have f150 := f147.keep Kq149
              have f151 := f148.keep Kq149 (ninS (Ne.symm ne143) (ninS (Ne.symm ne_ap_at1) (ninS (Ne.symm ne_an_at1) nin0)))
              refine W.s3 (mkF m 173 #[.val (.int xsz), .val (.int xa), .val (.int xb), .val (.int xc), .val (.int xd), .val (.int xn), .val (.int p1), .val (.int p2), .val (.int p3), .val (.int xq), .val (.ref b101), .val (.ref at1), .val (.int p3), .val (.int (-1 : Int32)), .val (.int (2 : Int32)), .val (.int (1 : Int32)), .unset, .unset, .unset] []) st149 ?_
              rcases hz149 with hz149 | hz149
              · have H149 := hz149.2
                have hm149 : p1 = xq := List.mem_singleton.mp hz149.1
                refine W.s1 (mkF m 175 #[.val (.int xsz), .val (.int xa), .val (.int xb), .val (.int xc), .val (.int xd), .val (.int xn), .val (.int p1), .val (.int p2), .val (.int p3), .val (.int xq), .val (.ref b101), .val (.ref at1), .val (.int p3), .val (.int (-1 : Int32)), .val (.int (2 : Int32)), .val (.int (1 : Int32)), .unset, .unset, .unset] [(.ref b101)]) (fun _ kx_ => XS.aload X149.here hx rfl (hb hby at_173) rfl rfl kx_) ?_
                have Zo_175 := Z149
                have hge_at2 : ap < h149.size ∧ an < h149.size := by obtain ⟨_, _, _, _, _, _, _, q1, q2, _⟩ := H149; exact ⟨q1.lt, q2.lt⟩
                obtain ⟨cq152, kq152, q152a, q152b, q152c⟩ := isOf hZ e149 f150
                obtain ⟨_, _, ⟨T152, L152, k152, n152⟩, -, X152, ⟨Lc152, hQ152, l152, y152, z152⟩, st152⟩ := X149.virtualBack hx (y := (⟨"com/example/tempora/tempora/NotedPoints", "take", "()[I"⟩ : MethodName)) (z := (⟨"com/example/tempora/tempora/NotedPoints", "take", "()[I"⟩ : MethodName)) hown (mvT hZ (hw _ (List.mem_of_getElem? (i := 23) rfl))) (mvT hZ (hw _ (List.mem_of_getElem? (i := 24) rfl))) (notFace_of_selects (args := #[]) (mvT hZ (hw _ (List.mem_of_getElem? (i := 26) rfl)))) (mvT hZ (hw _ (List.mem_of_getElem? (i := 26) rfl))) (mvT hZ (hw _ (List.mem_of_getElem? (i := 25) rfl))) (by decide) (backOf (W := 0) (rm4 l Z a0 hw [] b101 ap an n xn [xq] h149 n0 Z149 hn hn8 (by show 1 ≤ n; skip; omega) H149 hp4 hp5 hp3 ge101 ge_ap ge_an) hZ (hw _ (List.mem_of_getElem? (i := 27) rfl)) (hw _ (List.mem_of_getElem? (i := 3) rfl)) (by decide) (by decide)) q152a q152c (g := (mkF m 175 #[.val (.int xsz), .val (.int xa), .val (.int xb), .val (.int xc), .val (.int xd), .val (.int xn), .val (.int p1), .val (.int p2), .val (.int p3), .val (.int xq), .val (.ref b101), .val (.ref at1), .val (.int p3), .val (.int (-1 : Int32)), .val (.int (2 : Int32)), .val (.int (1 : Int32)), .unset, .unset, .unset] [(.ref b101)])) rfl (by rw [hml]; rfl) (Steps.refl _) (argsL := []) (rest := []) (lenOf pd_4 rfl) rfl (by show 2 * 0 + _ ≤ _; exact Nat.le_of_eq rfl) (hb hby at_175) (fun _ _ => ⟨rfl, e149, (by decide : 4 + 1 ≤ _), (by decide : 27 + 8 ≤ _)⟩)
                dsimp only [Pt.U, Pt.locs, Pt.cells, Pt.slots] at X152 l152 y152 z152 st152 hQ152
                subst l152 y152 z152
                obtain ⟨h152, e152⟩ : ∃ z, T152.heap = z := ⟨_, rfl⟩
                rw [e152] at hQ152
                obtain ⟨at2, rfl, Nq152, Kq152, hgtat2, hltat2, A152, H152⟩ := hQ152
                have N152 := Fr.app N149 Nq152
                have Z152 : n0 ≤ h152.size := Nat.le_trans Z149 Kq152.1
                have f153 := f150.keep Kq152
                have f154 := f151.keep Kq152 (ninS (Ne.symm ne143) (ninS (Ne.symm ne_ap_at1) (ninS (Ne.symm ne_an_at1) nin0)))
                have ne155 : b101 ≠ at2 := Nat.ne_of_lt (Nat.lt_of_lt_of_le f150.lt hgtat2)
                have ne156 : at1 ≠ at2 := Nat.ne_of_lt (Nat.lt_of_lt_of_le f151.lt hgtat2)
                have ge157 : n0 ≤ at2 := Nat.le_trans Zo_175 hgtat2
                have ne_ap_at2 : ap ≠ at2 := Nat.ne_of_lt (Nat.lt_of_lt_of_le hge_at2.1 hgtat2)
                have ne_an_at2 : an ≠ at2 := Nat.ne_of_lt (Nat.lt_of_lt_of_le hge_at2.2 hgtat2)
                refine W.s3 (mkF m 178 #[.val (.int xsz), .val (.int xa), .val (.int xb), .val (.int xc), .val (.int xd), .val (.int xn), .val (.int p1), .val (.int p2), .val (.int p3), .val (.int xq), .val (.ref b101), .val (.ref at1), .val (.int p3), .val (.int (-1 : Int32)), .val (.int (2 : Int32)), .val (.int (1 : Int32)), .unset, .unset, .unset] [(.ref at2)]) st152 ?_
                refine W.s1 (mkF m 180 #[.val (.int xsz), .val (.int xa), .val (.int xb), .val (.int xc), .val (.int xd), .val (.int xn), .val (.int p1), .val (.int p2), .val (.int p3), .val (.int xq), .val (.ref b101), .val (.ref at1), .val (.int p3), .val (.int (-1 : Int32)), .val (.int (2 : Int32)), .val (.int (1 : Int32)), .val (.ref at2), .unset, .unset] []) (fun _ kx_ => XS.astore X152.here hx rfl (hb hby at_178) rfl rfl (l' := #[.val (.int xsz), .val (.int xa), .val (.int xb), .val (.int xc), .val (.int xd), .val (.int xn), .val (.int p1), .val (.int p2), .val (.int p3), .val (.int xq), .val (.ref b101), .val (.ref at1), .val (.int p3), .val (.int (-1 : Int32)), .val (.int (2 : Int32)), .val (.int (1 : Int32)), .val (.ref at2), .unset, .unset]) rfl kx_) ?_
                refine W.s1 (mkF m 182 #[.val (.int xsz), .val (.int xa), .val (.int xb), .val (.int xc), .val (.int xd), .val (.int xn), .val (.int p1), .val (.int p2), .val (.int p3), .val (.int xq), .val (.ref b101), .val (.ref at1), .val (.int p3), .val (.int (-1 : Int32)), .val (.int (2 : Int32)), .val (.int (1 : Int32)), .val (.ref at2), .unset, .unset] [(.int xq)]) (fun _ kx_ => XS.iload X152.here hx rfl (hb hby at_180) rfl kx_) ?_
                refine W.s1 (mkF m 184 #[.val (.int xsz), .val (.int xa), .val (.int xb), .val (.int xc), .val (.int xd), .val (.int xn), .val (.int p1), .val (.int p2), .val (.int p3), .val (.int xq), .val (.ref b101), .val (.ref at1), .val (.int p3), .val (.int (-1 : Int32)), .val (.int (2 : Int32)), .val (.int (1 : Int32)), .val (.ref at2), .unset, .unset] [(.int p1), (.int xq)]) (fun _ kx_ => XS.iload X152.here hx rfl (hb hby at_182) rfl kx_) ?_
                refine W.icmp X152 hx (hb hby at_184) (pc' := 191) (pc'' := 187) (by decide) (by decide) rfl (fun (c184 : ¬ xq = p1) => ?_) (fun (c184 : xq = p1) => ?_)
                · exact absurd hm149.symm c184
                · refine W.s1 (mkF m 188 #[.val (.int xsz), .val (.int xa), .val (.int xb), .val (.int xc), .val (.int xd), .val (.int xn), .val (.int p1), .val (.int p2), .val (.int p3), .val (.int xq), .val (.ref b101), .val (.ref at1), .val (.int p3), .val (.int (-1 : Int32)), .val (.int (2 : Int32)), .val (.int (1 : Int32)), .val (.ref at2), .unset, .unset] [(.int (1 : Int32))]) (fun _ kx_ => XS.iconst X152.here hx rfl (hb hby at_187) kx_) ?_
                  refine W.s1 (mkF m 192 #[.val (.int xsz), .val (.int xa), .val (.int xb), .val (.int xc), .val (.int xd), .val (.int xn), .val (.int p1), .val (.int p2), .val (.int p3), .val (.int xq), .val (.ref b101), .val (.ref at1), .val (.int p3), .val (.int (-1 : Int32)), .val (.int (2 : Int32)), .val (.int (1 : Int32)), .val (.ref at2), .unset, .unset] [(.int (1 : Int32))]) (fun _ kx_ => XS.goto X152.here hx rfl (pc0 := 188) (pc' := 192) rfl (hb hby at_188) (by decide) (by decide) kx_) ?_
                  refine W.s1 (mkF m 194 #[.val (.int xsz), .val (.int xa), .val (.int xb), .val (.int xc), .val (.int xd), .val (.int xn), .val (.int p1), .val (.int p2), .val (.int p3), .val (.int xq), .val (.ref b101), .val (.ref at1), .val (.int p3), .val (.int (-1 : Int32)), .val (.int (2 : Int32)), .val (.int (1 : Int32)), .val (.ref at2), .val (.int (1 : Int32)), .unset] []) (fun _ kx_ => XS.istore X152.here hx rfl (hb hby at_192) rfl (l' := #[.val (.int xsz), .val (.int xa), .val (.int xb), .val (.int xc), .val (.int xd), .val (.int xn), .val (.int p1), .val (.int p2), .val (.int p3), .val (.int xq), .val (.ref b101), .val (.ref at1), .val (.int p3), .val (.int (-1 : Int32)), .val (.int (2 : Int32)), .val (.int (1 : Int32)), .val (.ref at2), .val (.int (1 : Int32)), .unset]) rfl kx_) ?_
                  refine W.s1 (mkF m 196 #[.val (.int xsz), .val (.int xa), .val (.int xb), .val (.int xc), .val (.int xd), .val (.int xn), .val (.int p1), .val (.int p2), .val (.int p3), .val (.int xq), .val (.ref b101), .val (.ref at1), .val (.int p3), .val (.int (-1 : Int32)), .val (.int (2 : Int32)), .val (.int (1 : Int32)), .val (.ref at2), .val (.int (1 : Int32)), .unset] [(.ref at2)]) (fun _ kx_ => XS.aload X152.here hx rfl (hb hby at_194) rfl rfl kx_) ?_
                  refine W.s1 (mkF m 198 #[.val (.int xsz), .val (.int xa), .val (.int xb), .val (.int xc), .val (.int xd), .val (.int xn), .val (.int p1), .val (.int p2), .val (.int p3), .val (.int xq), .val (.ref b101), .val (.ref at1), .val (.int p3), .val (.int (-1 : Int32)), .val (.int (2 : Int32)), .val (.int (1 : Int32)), .val (.ref at2), .val (.int (1 : Int32)), .unset] [(.int (1 : Int32)), (.ref at2)]) (fun _ kx_ => XS.iload X152.here hx rfl (hb hby at_196) rfl kx_) ?_
                  refine W.s1 (mkF m 200 #[.val (.int xsz), .val (.int xa), .val (.int xb), .val (.int xc), .val (.int xd), .val (.int xn), .val (.int p1), .val (.int p2), .val (.int p3), .val (.int xq), .val (.ref b101), .val (.ref at1), .val (.int p3), .val (.int (-1 : Int32)), .val (.int (2 : Int32)), .val (.int (1 : Int32)), .val (.ref at2), .val (.int (1 : Int32)), .unset] [(.int xq), (.int (1 : Int32)), (.ref at2)]) (fun _ kx_ => XS.iload X152.here hx rfl (hb hby at_198) rfl kx_) ?_
                  refine W.s1 (mkF m 202 #[.val (.int xsz), .val (.int xa), .val (.int xb), .val (.int xc), .val (.int xd), .val (.int xn), .val (.int p1), .val (.int p2), .val (.int p3), .val (.int xq), .val (.ref b101), .val (.ref at1), .val (.int p3), .val (.int (-1 : Int32)), .val (.int (2 : Int32)), .val (.int (1 : Int32)), .val (.ref at2), .val (.int (1 : Int32)), .unset] [(.int p1), (.int xq), (.int (1 : Int32)), (.ref at2)]) (fun _ kx_ => XS.iload X152.here hx rfl (hb hby at_200) rfl kx_) ?_
                  refine W.s1 (mkF m 203 #[.val (.int xsz), .val (.int xa), .val (.int xb), .val (.int xc), .val (.int xd), .val (.int xn), .val (.int p1), .val (.int p2), .val (.int p3), .val (.int xq), .val (.ref b101), .val (.ref at1), .val (.int p3), .val (.int (-1 : Int32)), .val (.int (2 : Int32)), .val (.int (1 : Int32)), .val (.ref at2), .val (.int (1 : Int32)), .unset] [(.int (-1 : Int32)), (.int p1), (.int xq), (.int (1 : Int32)), (.ref at2)]) (fun _ kx_ => XS.iconst X152.here hx rfl (hb hby at_202) kx_) ?_
                  obtain ⟨_, _, ⟨T158, L158, k158, n158⟩, -, X158, ⟨Lc158, hQ158, l158, y158, z158⟩, st158⟩ := Jvm.LawKit.callS X152 hx (y := (⟨"com/example/tempora/tempora/NotedPointsNotePinLaw", "same", "([IIIII)Z"⟩ : MethodName)) hown (mvT hZ (hw _ (List.mem_of_getElem? (i := 46) rfl))) (mvT hZ (hw _ (List.mem_of_getElem? (i := 47) rfl))) (mvT hZ (hw _ (List.mem_of_getElem? (i := 48) rfl))) (mvT hZ (hw _ (List.mem_of_getElem? (i := 49) rfl))) (by decide) (backOf (W := 0) (rm7 l Z a0 hw [] at2 (1 : Int32) xq p1 (-1 : Int32) 1 (fun i => [xq].getD i 0) h152 n0 Z152 A152 rfl (fun _ => rfl) (fun q => absurd q (by decide)) (fun q => absurd q (by decide))) hZ (hw _ (List.mem_of_getElem? (i := 49) rfl)) (hw _ (List.mem_of_getElem? (i := 48) rfl)) (by decide) (by decide)) (g := (mkF m 203 #[.val (.int xsz), .val (.int xa), .val (.int xb), .val (.int xc), .val (.int xd), .val (.int xn), .val (.int p1), .val (.int p2), .val (.int p3), .val (.int xq), .val (.ref b101), .val (.ref at1), .val (.int p3), .val (.int (-1 : Int32)), .val (.int (2 : Int32)), .val (.int (1 : Int32)), .val (.ref at2), .val (.int (1 : Int32)), .unset] [(.int (-1 : Int32)), (.int p1), (.int xq), (.int (1 : Int32)), (.ref at2)])) rfl (by rw [hml]; rfl) (argsL := [(.ref at2), (.int (1 : Int32)), (.int xq), (.int p1), (.int (-1 : Int32))]) (rest := []) (lenOf pd_5 rfl) rfl (by show 2 * 0 + _ ≤ _; exact Nat.le_of_eq rfl) (hb hby at_203) (fun _ _ => ⟨rfl, e152, (by decide : 5 + 0 ≤ _), (by decide : 35 + 0 ≤ _)⟩)
                  dsimp only [Pt.U, Pt.locs, Pt.cells, Pt.slots] at X158 l158 y158 z158 st158 hQ158
                  subst l158 y158 z158
                  obtain ⟨rfl, Nq158, eq158⟩ := hQ158
                  have N158 := Fr.app N152 Nq158
                  refine W.s2 (mkF m 206 #[.val (.int xsz), .val (.int xa), .val (.int xb), .val (.int xc), .val (.int xd), .val (.int xn), .val (.int p1), .val (.int p2), .val (.int p3), .val (.int xq), .val (.ref b101), .val (.ref at1), .val (.int p3), .val (.int (-1 : Int32)), .val (.int (2 : Int32)), .val (.int (1 : Int32)), .val (.ref at2), .val (.int (1 : Int32)), .unset] [(.int (1 : Int32))]) st158 ?_
                  refine W.s1 (mkF m 208 #[.val (.int xsz), .val (.int xa), .val (.int xb), .val (.int xc), .val (.int xd), .val (.int xn), .val (.int p1), .val (.int p2), .val (.int p3), .val (.int xq), .val (.ref b101), .val (.ref at1), .val (.int p3), .val (.int (-1 : Int32)), .val (.int (2 : Int32)), .val (.int (1 : Int32)), .val (.ref at2), .val (.int (1 : Int32)), .val (.int (1 : Int32))] []) (fun _ kx_ => XS.istore X158.here hx rfl (hb hby at_206) rfl (l' := #[.val (.int xsz), .val (.int xa), .val (.int xb), .val (.int xc), .val (.int xd), .val (.int xn), .val (.int p1), .val (.int p2), .val (.int p3), .val (.int xq), .val (.ref b101), .val (.ref at1), .val (.int p3), .val (.int (-1 : Int32)), .val (.int (2 : Int32)), .val (.int (1 : Int32)), .val (.ref at2), .val (.int (1 : Int32)), .val (.int (1 : Int32))]) rfl kx_) ?_
                  refine W.s1 (mkF m 210 #[.val (.int xsz), .val (.int xa), .val (.int xb), .val (.int xc), .val (.int xd), .val (.int xn), .val (.int p1), .val (.int p2), .val (.int p3), .val (.int xq), .val (.ref b101), .val (.ref at1), .val (.int p3), .val (.int (-1 : Int32)), .val (.int (2 : Int32)), .val (.int (1 : Int32)), .val (.ref at2), .val (.int (1 : Int32)), .val (.int (1 : Int32))] [(.int (1 : Int32))]) (fun _ kx_ => XS.iload X158.here hx rfl (hb hby at_208) rfl kx_) ?_
                  refine W.ifc X158 hx (hb hby at_210) (pc' := 222) (pc'' := 213) (by decide) (by decide) rfl (fun (c210 : (1 : Int32) = (0 : Int32)) => ?_) (fun (c210 : ¬ (1 : Int32) = (0 : Int32)) => ?_)
                  · exact absurd c210 (by decide)
                  · refine W.s1 (mkF m 215 #[.val (.int xsz), .val (.int xa), .val (.int xb), .val (.int xc), .val (.int xd), .val (.int xn), .val (.int p1), .val (.int p2), .val (.int p3), .val (.int xq), .val (.ref b101), .val (.ref at1), .val (.int p3), .val (.int (-1 : Int32)), .val (.int (2 : Int32)), .val (.int (1 : Int32)), .val (.ref at2), .val (.int (1 : Int32)), .val (.int (1 : Int32))] [(.int (1 : Int32))]) (fun _ kx_ => XS.iload X158.here hx rfl (hb hby at_213) rfl kx_) ?_
                    refine W.ifc X158 hx (hb hby at_215) (pc' := 222) (pc'' := 218) (by decide) (by decide) rfl (fun (c215 : (1 : Int32) = (0 : Int32)) => ?_) (fun (c215 : ¬ (1 : Int32) = (0 : Int32)) => ?_)
                    · exact absurd c215 (by decide)
                    · refine W.s1 (mkF m 219 #[.val (.int xsz), .val (.int xa), .val (.int xb), .val (.int xc), .val (.int xd), .val (.int xn), .val (.int p1), .val (.int p2), .val (.int p3), .val (.int xq), .val (.ref b101), .val (.ref at1), .val (.int p3), .val (.int (-1 : Int32)), .val (.int (2 : Int32)), .val (.int (1 : Int32)), .val (.ref at2), .val (.int (1 : Int32)), .val (.int (1 : Int32))] [(.int (1 : Int32))]) (fun _ kx_ => XS.iconst X158.here hx rfl (hb hby at_218) kx_) ?_
                      refine W.s1 (mkF m 223 #[.val (.int xsz), .val (.int xa), .val (.int xb), .val (.int xc), .val (.int xd), .val (.int xn), .val (.int p1), .val (.int p2), .val (.int p3), .val (.int xq), .val (.ref b101), .val (.ref at1), .val (.int p3), .val (.int (-1 : Int32)), .val (.int (2 : Int32)), .val (.int (1 : Int32)), .val (.ref at2), .val (.int (1 : Int32)), .val (.int (1 : Int32))] [(.int (1 : Int32))]) (fun _ kx_ => XS.goto X158.here hx rfl (pc0 := 219) (pc' := 223) rfl (hb hby at_219) (by decide) (by decide) kx_) ?_
                      exact W.retZ X158 hx hlk (t := .boolean) (z' := (1 : Int32)) Bd.returns (by simp) (hb hby at_223) rfl (by show Q0 Z xsz xa xb xc xd h0 n0 _ T158.heap _; rw [eq158]; exact ⟨rfl, N158⟩) (by decide) (by decide)
              · have H149 := hz149.2
                have hm149_0 : ¬ p1 = xq := fun q => hz149.1 (by rw [q]; simp)
                refine W.s1 (mkF m 175 #[.val (.int xsz), .val (.int xa), .val (.int xb), .val (.int xc), .val (.int xd), .val (.int xn), .val (.int p1), .val (.int p2), .val (.int p3), .val (.int xq), .val (.ref b101), .val (.ref at1), .val (.int p3), .val (.int (-1 : Int32)), .val (.int (2 : Int32)), .val (.int (1 : Int32)), .unset, .unset, .unset] [(.ref b101)]) (fun _ kx_ => XS.aload X149.here hx rfl (hb hby at_173) rfl rfl kx_) ?_
                have Zo_175 := Z149
                have hge_at2 : ap < h149.size ∧ an < h149.size := by obtain ⟨_, _, _, _, _, _, _, q1, q2, _⟩ := H149; exact ⟨q1.lt, q2.lt⟩
                obtain ⟨cq159, kq159, q159a, q159b, q159c⟩ := isOf hZ e149 f150
                obtain ⟨_, _, ⟨T159, L159, k159, n159⟩, -, X159, ⟨Lc159, hQ159, l159, y159, z159⟩, st159⟩ := X149.virtualBack hx (y := (⟨"com/example/tempora/tempora/NotedPoints", "take", "()[I"⟩ : MethodName)) (z := (⟨"com/example/tempora/tempora/NotedPoints", "take", "()[I"⟩ : MethodName)) hown (mvT hZ (hw _ (List.mem_of_getElem? (i := 23) rfl))) (mvT hZ (hw _ (List.mem_of_getElem? (i := 24) rfl))) (notFace_of_selects (args := #[]) (mvT hZ (hw _ (List.mem_of_getElem? (i := 26) rfl)))) (mvT hZ (hw _ (List.mem_of_getElem? (i := 26) rfl))) (mvT hZ (hw _ (List.mem_of_getElem? (i := 25) rfl))) (by decide) (backOf (W := 0) (rm4 l Z a0 hw [] b101 ap an n xn [xq, p1] h149 n0 Z149 hn hn8 (by show 2 ≤ n; have := own_ne hm149_0; skip; omega) H149 hp4 hp5 hp3 ge101 ge_ap ge_an) hZ (hw _ (List.mem_of_getElem? (i := 27) rfl)) (hw _ (List.mem_of_getElem? (i := 3) rfl)) (by decide) (by decide)) q159a q159c (g := (mkF m 175 #[.val (.int xsz), .val (.int xa), .val (.int xb), .val (.int xc), .val (.int xd), .val (.int xn), .val (.int p1), .val (.int p2), .val (.int p3), .val (.int xq), .val (.ref b101), .val (.ref at1), .val (.int p3), .val (.int (-1 : Int32)), .val (.int (2 : Int32)), .val (.int (1 : Int32)), .unset, .unset, .unset] [(.ref b101)])) rfl (by rw [hml]; rfl) (Steps.refl _) (argsL := []) (rest := []) (lenOf pd_4 rfl) rfl (by show 2 * 0 + _ ≤ _; exact Nat.le_of_eq rfl) (hb hby at_175) (fun _ _ => ⟨rfl, e149, (by decide : 4 + 1 ≤ _), (by decide : 27 + 8 ≤ _)⟩)
                dsimp only [Pt.U, Pt.locs, Pt.cells, Pt.slots] at X159 l159 y159 z159 st159 hQ159
                subst l159 y159 z159
                obtain ⟨h159, e159⟩ : ∃ z, T159.heap = z := ⟨_, rfl⟩
                rw [e159] at hQ159
                obtain ⟨at2, rfl, Nq159, Kq159, hgtat2, hltat2, A159, H159⟩ := hQ159
                have N159 := Fr.app N149 Nq159
                have Z159 : n0 ≤ h159.size := Nat.le_trans Z149 Kq159.1
                have f160 := f150.keep Kq159
                have f161 := f151.keep Kq159 (ninS (Ne.symm ne143) (ninS (Ne.symm ne_ap_at1) (ninS (Ne.symm ne_an_at1) nin0)))
                have ne162 : b101 ≠ at2 := Nat.ne_of_lt (Nat.lt_of_lt_of_le f150.lt hgtat2)
                have ne163 : at1 ≠ at2 := Nat.ne_of_lt (Nat.lt_of_lt_of_le f151.lt hgtat2)
                have ge164 : n0 ≤ at2 := Nat.le_trans Zo_175 hgtat2
                have ne_ap_at2 : ap ≠ at2 := Nat.ne_of_lt (Nat.lt_of_lt_of_le hge_at2.1 hgtat2)
                have ne_an_at2 : an ≠ at2 := Nat.ne_of_lt (Nat.lt_of_lt_of_le hge_at2.2 hgtat2)
                refine W.s3 (mkF m 178 #[.val (.int xsz), .val (.int xa), .val (.int xb), .val (.int xc), .val (.int xd), .val (.int xn), .val (.int p1), .val (.int p2), .val (.int p3), .val (.int xq), .val (.ref b101), .val (.ref at1), .val (.int p3), .val (.int (-1 : Int32)), .val (.int (2 : Int32)), .val (.int (1 : Int32)), .unset, .unset, .unset] [(.ref at2)]) st159 ?_
                refine W.s1 (mkF m 180 #[.val (.int xsz), .val (.int xa), .val (.int xb), .val (.int xc), .val (.int xd), .val (.int xn), .val (.int p1), .val (.int p2), .val (.int p3), .val (.int xq), .val (.ref b101), .val (.ref at1), .val (.int p3), .val (.int (-1 : Int32)), .val (.int (2 : Int32)), .val (.int (1 : Int32)), .val (.ref at2), .unset, .unset] []) (fun _ kx_ => XS.astore X159.here hx rfl (hb hby at_178) rfl rfl (l' := #[.val (.int xsz), .val (.int xa), .val (.int xb), .val (.int xc), .val (.int xd), .val (.int xn), .val (.int p1), .val (.int p2), .val (.int p3), .val (.int xq), .val (.ref b101), .val (.ref at1), .val (.int p3), .val (.int (-1 : Int32)), .val (.int (2 : Int32)), .val (.int (1 : Int32)), .val (.ref at2), .unset, .unset]) rfl kx_) ?_
                refine W.s1 (mkF m 182 #[.val (.int xsz), .val (.int xa), .val (.int xb), .val (.int xc), .val (.int xd), .val (.int xn), .val (.int p1), .val (.int p2), .val (.int p3), .val (.int xq), .val (.ref b101), .val (.ref at1), .val (.int p3), .val (.int (-1 : Int32)), .val (.int (2 : Int32)), .val (.int (1 : Int32)), .val (.ref at2), .unset, .unset] [(.int xq)]) (fun _ kx_ => XS.iload X159.here hx rfl (hb hby at_180) rfl kx_) ?_
                refine W.s1 (mkF m 184 #[.val (.int xsz), .val (.int xa), .val (.int xb), .val (.int xc), .val (.int xd), .val (.int xn), .val (.int p1), .val (.int p2), .val (.int p3), .val (.int xq), .val (.ref b101), .val (.ref at1), .val (.int p3), .val (.int (-1 : Int32)), .val (.int (2 : Int32)), .val (.int (1 : Int32)), .val (.ref at2), .unset, .unset] [(.int p1), (.int xq)]) (fun _ kx_ => XS.iload X159.here hx rfl (hb hby at_182) rfl kx_) ?_
                refine W.icmp X159 hx (hb hby at_184) (pc' := 191) (pc'' := 187) (by decide) (by decide) rfl (fun (c184 : ¬ xq = p1) => ?_) (fun (c184 : xq = p1) => ?_)
                · refine W.s1 (mkF m 192 #[.val (.int xsz), .val (.int xa), .val (.int xb), .val (.int xc), .val (.int xd), .val (.int xn), .val (.int p1), .val (.int p2), .val (.int p3), .val (.int xq), .val (.ref b101), .val (.ref at1), .val (.int p3), .val (.int (-1 : Int32)), .val (.int (2 : Int32)), .val (.int (1 : Int32)), .val (.ref at2), .unset, .unset] [(.int (2 : Int32))]) (fun _ kx_ => XS.iconst X159.here hx rfl (hb hby at_191) kx_) ?_
                  refine W.s1 (mkF m 194 #[.val (.int xsz), .val (.int xa), .val (.int xb), .val (.int xc), .val (.int xd), .val (.int xn), .val (.int p1), .val (.int p2), .val (.int p3), .val (.int xq), .val (.ref b101), .val (.ref at1), .val (.int p3), .val (.int (-1 : Int32)), .val (.int (2 : Int32)), .val (.int (1 : Int32)), .val (.ref at2), .val (.int (2 : Int32)), .unset] []) (fun _ kx_ => XS.istore X159.here hx rfl (hb hby at_192) rfl (l' := #[.val (.int xsz), .val (.int xa), .val (.int xb), .val (.int xc), .val (.int xd), .val (.int xn), .val (.int p1), .val (.int p2), .val (.int p3), .val (.int xq), .val (.ref b101), .val (.ref at1), .val (.int p3), .val (.int (-1 : Int32)), .val (.int (2 : Int32)), .val (.int (1 : Int32)), .val (.ref at2), .val (.int (2 : Int32)), .unset]) rfl kx_) ?_
                  refine W.s1 (mkF m 196 #[.val (.int xsz), .val (.int xa), .val (.int xb), .val (.int xc), .val (.int xd), .val (.int xn), .val (.int p1), .val (.int p2), .val (.int p3), .val (.int xq), .val (.ref b101), .val (.ref at1), .val (.int p3), .val (.int (-1 : Int32)), .val (.int (2 : Int32)), .val (.int (1 : Int32)), .val (.ref at2), .val (.int (2 : Int32)), .unset] [(.ref at2)]) (fun _ kx_ => XS.aload X159.here hx rfl (hb hby at_194) rfl rfl kx_) ?_
                  refine W.s1 (mkF m 198 #[.val (.int xsz), .val (.int xa), .val (.int xb), .val (.int xc), .val (.int xd), .val (.int xn), .val (.int p1), .val (.int p2), .val (.int p3), .val (.int xq), .val (.ref b101), .val (.ref at1), .val (.int p3), .val (.int (-1 : Int32)), .val (.int (2 : Int32)), .val (.int (1 : Int32)), .val (.ref at2), .val (.int (2 : Int32)), .unset] [(.int (2 : Int32)), (.ref at2)]) (fun _ kx_ => XS.iload X159.here hx rfl (hb hby at_196) rfl kx_) ?_
                  refine W.s1 (mkF m 200 #[.val (.int xsz), .val (.int xa), .val (.int xb), .val (.int xc), .val (.int xd), .val (.int xn), .val (.int p1), .val (.int p2), .val (.int p3), .val (.int xq), .val (.ref b101), .val (.ref at1), .val (.int p3), .val (.int (-1 : Int32)), .val (.int (2 : Int32)), .val (.int (1 : Int32)), .val (.ref at2), .val (.int (2 : Int32)), .unset] [(.int xq), (.int (2 : Int32)), (.ref at2)]) (fun _ kx_ => XS.iload X159.here hx rfl (hb hby at_198) rfl kx_) ?_
                  refine W.s1 (mkF m 202 #[.val (.int xsz), .val (.int xa), .val (.int xb), .val (.int xc), .val (.int xd), .val (.int xn), .val (.int p1), .val (.int p2), .val (.int p3), .val (.int xq), .val (.ref b101), .val (.ref at1), .val (.int p3), .val (.int (-1 : Int32)), .val (.int (2 : Int32)), .val (.int (1 : Int32)), .val (.ref at2), .val (.int (2 : Int32)), .unset] [(.int p1), (.int xq), (.int (2 : Int32)), (.ref at2)]) (fun _ kx_ => XS.iload X159.here hx rfl (hb hby at_200) rfl kx_) ?_
                  refine W.s1 (mkF m 203 #[.val (.int xsz), .val (.int xa), .val (.int xb), .val (.int xc), .val (.int xd), .val (.int xn), .val (.int p1), .val (.int p2), .val (.int p3), .val (.int xq), .val (.ref b101), .val (.ref at1), .val (.int p3), .val (.int (-1 : Int32)), .val (.int (2 : Int32)), .val (.int (1 : Int32)), .val (.ref at2), .val (.int (2 : Int32)), .unset] [(.int (-1 : Int32)), (.int p1), (.int xq), (.int (2 : Int32)), (.ref at2)]) (fun _ kx_ => XS.iconst X159.here hx rfl (hb hby at_202) kx_) ?_
                  obtain ⟨_, _, ⟨T165, L165, k165, n165⟩, -, X165, ⟨Lc165, hQ165, l165, y165, z165⟩, st165⟩ := Jvm.LawKit.callS X159 hx (y := (⟨"com/example/tempora/tempora/NotedPointsNotePinLaw", "same", "([IIIII)Z"⟩ : MethodName)) hown (mvT hZ (hw _ (List.mem_of_getElem? (i := 46) rfl))) (mvT hZ (hw _ (List.mem_of_getElem? (i := 47) rfl))) (mvT hZ (hw _ (List.mem_of_getElem? (i := 48) rfl))) (mvT hZ (hw _ (List.mem_of_getElem? (i := 49) rfl))) (by decide) (backOf (W := 0) (rm7 l Z a0 hw [] at2 (2 : Int32) xq p1 (-1 : Int32) 2 (fun i => [xq, p1].getD i 0) h159 n0 Z159 A159 rfl (fun _ => rfl) (fun _ => rfl) (fun q => absurd q (by decide))) hZ (hw _ (List.mem_of_getElem? (i := 49) rfl)) (hw _ (List.mem_of_getElem? (i := 48) rfl)) (by decide) (by decide)) (g := (mkF m 203 #[.val (.int xsz), .val (.int xa), .val (.int xb), .val (.int xc), .val (.int xd), .val (.int xn), .val (.int p1), .val (.int p2), .val (.int p3), .val (.int xq), .val (.ref b101), .val (.ref at1), .val (.int p3), .val (.int (-1 : Int32)), .val (.int (2 : Int32)), .val (.int (1 : Int32)), .val (.ref at2), .val (.int (2 : Int32)), .unset] [(.int (-1 : Int32)), (.int p1), (.int xq), (.int (2 : Int32)), (.ref at2)])) rfl (by rw [hml]; rfl) (argsL := [(.ref at2), (.int (2 : Int32)), (.int xq), (.int p1), (.int (-1 : Int32))]) (rest := []) (lenOf pd_5 rfl) rfl (by show 2 * 0 + _ ≤ _; exact Nat.le_of_eq rfl) (hb hby at_203) (fun _ _ => ⟨rfl, e159, (by decide : 5 + 0 ≤ _), (by decide : 35 + 0 ≤ _)⟩)
                  dsimp only [Pt.U, Pt.locs, Pt.cells, Pt.slots] at X165 l165 y165 z165 st165 hQ165
                  subst l165 y165 z165
                  obtain ⟨rfl, Nq165, eq165⟩ := hQ165
                  have N165 := Fr.app N159 Nq165
                  refine W.s2 (mkF m 206 #[.val (.int xsz), .val (.int xa), .val (.int xb), .val (.int xc), .val (.int xd), .val (.int xn), .val (.int p1), .val (.int p2), .val (.int p3), .val (.int xq), .val (.ref b101), .val (.ref at1), .val (.int p3), .val (.int (-1 : Int32)), .val (.int (2 : Int32)), .val (.int (1 : Int32)), .val (.ref at2), .val (.int (2 : Int32)), .unset] [(.int (1 : Int32))]) st165 ?_
                  refine W.s1 (mkF m 208 #[.val (.int xsz), .val (.int xa), .val (.int xb), .val (.int xc), .val (.int xd), .val (.int xn), .val (.int p1), .val (.int p2), .val (.int p3), .val (.int xq), .val (.ref b101), .val (.ref at1), .val (.int p3), .val (.int (-1 : Int32)), .val (.int (2 : Int32)), .val (.int (1 : Int32)), .val (.ref at2), .val (.int (2 : Int32)), .val (.int (1 : Int32))] []) (fun _ kx_ => XS.istore X165.here hx rfl (hb hby at_206) rfl (l' := #[.val (.int xsz), .val (.int xa), .val (.int xb), .val (.int xc), .val (.int xd), .val (.int xn), .val (.int p1), .val (.int p2), .val (.int p3), .val (.int xq), .val (.ref b101), .val (.ref at1), .val (.int p3), .val (.int (-1 : Int32)), .val (.int (2 : Int32)), .val (.int (1 : Int32)), .val (.ref at2), .val (.int (2 : Int32)), .val (.int (1 : Int32))]) rfl kx_) ?_
                  refine W.s1 (mkF m 210 #[.val (.int xsz), .val (.int xa), .val (.int xb), .val (.int xc), .val (.int xd), .val (.int xn), .val (.int p1), .val (.int p2), .val (.int p3), .val (.int xq), .val (.ref b101), .val (.ref at1), .val (.int p3), .val (.int (-1 : Int32)), .val (.int (2 : Int32)), .val (.int (1 : Int32)), .val (.ref at2), .val (.int (2 : Int32)), .val (.int (1 : Int32))] [(.int (1 : Int32))]) (fun _ kx_ => XS.iload X165.here hx rfl (hb hby at_208) rfl kx_) ?_
                  refine W.ifc X165 hx (hb hby at_210) (pc' := 222) (pc'' := 213) (by decide) (by decide) rfl (fun (c210 : (1 : Int32) = (0 : Int32)) => ?_) (fun (c210 : ¬ (1 : Int32) = (0 : Int32)) => ?_)
                  · exact absurd c210 (by decide)
                  · refine W.s1 (mkF m 215 #[.val (.int xsz), .val (.int xa), .val (.int xb), .val (.int xc), .val (.int xd), .val (.int xn), .val (.int p1), .val (.int p2), .val (.int p3), .val (.int xq), .val (.ref b101), .val (.ref at1), .val (.int p3), .val (.int (-1 : Int32)), .val (.int (2 : Int32)), .val (.int (1 : Int32)), .val (.ref at2), .val (.int (2 : Int32)), .val (.int (1 : Int32))] [(.int (1 : Int32))]) (fun _ kx_ => XS.iload X165.here hx rfl (hb hby at_213) rfl kx_) ?_
                    refine W.ifc X165 hx (hb hby at_215) (pc' := 222) (pc'' := 218) (by decide) (by decide) rfl (fun (c215 : (1 : Int32) = (0 : Int32)) => ?_) (fun (c215 : ¬ (1 : Int32) = (0 : Int32)) => ?_)
                    · exact absurd c215 (by decide)
                    · refine W.s1 (mkF m 219 #[.val (.int xsz), .val (.int xa), .val (.int xb), .val (.int xc), .val (.int xd), .val (.int xn), .val (.int p1), .val (.int p2), .val (.int p3), .val (.int xq), .val (.ref b101), .val (.ref at1), .val (.int p3), .val (.int (-1 : Int32)), .val (.int (2 : Int32)), .val (.int (1 : Int32)), .val (.ref at2), .val (.int (2 : Int32)), .val (.int (1 : Int32))] [(.int (1 : Int32))]) (fun _ kx_ => XS.iconst X165.here hx rfl (hb hby at_218) kx_) ?_
                      refine W.s1 (mkF m 223 #[.val (.int xsz), .val (.int xa), .val (.int xb), .val (.int xc), .val (.int xd), .val (.int xn), .val (.int p1), .val (.int p2), .val (.int p3), .val (.int xq), .val (.ref b101), .val (.ref at1), .val (.int p3), .val (.int (-1 : Int32)), .val (.int (2 : Int32)), .val (.int (1 : Int32)), .val (.ref at2), .val (.int (2 : Int32)), .val (.int (1 : Int32))] [(.int (1 : Int32))]) (fun _ kx_ => XS.goto X165.here hx rfl (pc0 := 219) (pc' := 223) rfl (hb hby at_219) (by decide) (by decide) kx_) ?_
                      exact W.retZ X165 hx hlk (t := .boolean) (z' := (1 : Int32)) Bd.returns (by simp) (hb hby at_223) rfl (by show Q0 Z xsz xa xb xc xd h0 n0 _ T165.heap _; rw [eq165]; exact ⟨rfl, N165⟩) (by decide) (by decide)
                · exact absurd c184 (fun q => hm149_0 q.symm)
      · exact absurd hm112 c97
  · have H112 := hz112.2
    have hm112_0 : ¬ p2 = p1 := fun q => hz112.1 (by rw [q]; simp)
    refine W.s1 (mkF m 72 #[.val (.int xsz), .val (.int xa), .val (.int xb), .val (.int xc), .val (.int xd), .val (.int xn), .val (.int p1), .val (.int p2), .val (.int p3), .val (.int xq), .val (.ref b101), .unset, .unset, .unset, .unset, .unset, .unset, .unset, .unset] [(.ref b101)]) (fun _ kx_ => XS.aload X112.here hx rfl (hb hby at_70) rfl rfl kx_) ?_
    refine W.s1 (mkF m 74 #[.val (.int xsz), .val (.int xa), .val (.int xb), .val (.int xc), .val (.int xd), .val (.int xn), .val (.int p1), .val (.int p2), .val (.int p3), .val (.int xq), .val (.ref b101), .unset, .unset, .unset, .unset, .unset, .unset, .unset, .unset] [(.int p3), (.ref b101)]) (fun _ kx_ => XS.iload X112.here hx rfl (hb hby at_72) rfl kx_) ?_
    obtain ⟨cq166, kq166, q166a, q166b, q166c⟩ := isOf hZ e112 f113
    obtain ⟨_, _, ⟨T166, L166, k166, n166⟩, -, X166, ⟨Lc166, hQ166, l166, y166, z166⟩, st166⟩ := X112.virtualBack hx (y := (⟨"com/example/tempora/tempora/NotedPoints", "note", "(I)V"⟩ : MethodName)) (z := (⟨"com/example/tempora/tempora/NotedPoints", "note", "(I)V"⟩ : MethodName)) hown (mvT hZ (hw _ (List.mem_of_getElem? (i := 16) rfl))) (mvT hZ (hw _ (List.mem_of_getElem? (i := 17) rfl))) (notFace_of_selects (args := #[]) (mvT hZ (hw _ (List.mem_of_getElem? (i := 19) rfl)))) (mvT hZ (hw _ (List.mem_of_getElem? (i := 19) rfl))) (mvT hZ (hw _ (List.mem_of_getElem? (i := 18) rfl))) (by decide) (backOf (W := 0) (rm3 l Z a0 hw [] b101 p3 ap an n xn [p1, p2] k3 h112 n0 Z112 hn hn8 H112 hk3 hl3 (if q : p3 ∈ ([p1, p2] : List Int32) then Or.inl q else Or.inr (by simp only [List.mem_cons, List.not_mem_nil, or_false, not_or] at q; have := own_ne hm112_0; have := own_ne q.1; have := own_ne q.2; skip; show 2 < n; omega)) hp4 hp5 hp3 ge101 ge_ap ge_an) hZ (hw _ (List.mem_of_getElem? (i := 20) rfl)) (hw _ (List.mem_of_getElem? (i := 3) rfl)) (by decide) (by decide)) q166a q166c (g := (mkF m 74 #[.val (.int xsz), .val (.int xa), .val (.int xb), .val (.int xc), .val (.int xd), .val (.int xn), .val (.int p1), .val (.int p2), .val (.int p3), .val (.int xq), .val (.ref b101), .unset, .unset, .unset, .unset, .unset, .unset, .unset, .unset] [(.int p3), (.ref b101)])) rfl (by rw [hml]; rfl) (Steps.refl _) (argsL := [(.int p3)]) (rest := []) (lenOf pd_3 rfl) rfl (by show 2 * 0 + _ ≤ _; exact Nat.le_of_eq rfl) (hb hby at_74) (fun _ _ => ⟨rfl, e112, (by decide : 3 + 0 ≤ _), (by decide : 19 + 0 ≤ _)⟩)
    dsimp only [Pt.U, Pt.locs, Pt.cells, Pt.slots] at X166 l166 y166 z166 st166 hQ166
    subst l166 y166 z166
    obtain ⟨h166, e166⟩ : ∃ z, T166.heap = z := ⟨_, rfl⟩
    rw [e166] at hQ166
    obtain ⟨rfl, Nq166, Kq166, hz166⟩ := hQ166
    have N166 := Fr.app N112 Nq166
    have Z166 : n0 ≤ h166.size := Nat.le_trans Z112 Kq166.1
    have f167 := f113.keep Kq166
    refine W.s3 (mkF m 77 #[.val (.int xsz), .val (.int xa), .val (.int xb), .val (.int xc), .val (.int xd), .val (.int xn), .val (.int p1), .val (.int p2), .val (.int p3), .val (.int xq), .val (.ref b101), .unset, .unset, .unset, .unset, .unset, .unset, .unset, .unset] []) st166 ?_
    have hw166 : (p3 = p1 ∧ own_NP Z h166 b101 ap an n [p1, p2]) ∨ (p3 = p2 ∧ ¬ p3 = p1 ∧ own_NP Z h166 b101 ap an n [p1, p2]) ∨ (p3 ∉ ([p1, p2] : List Int32) ∧ own_NP Z h166 b101 ap an n ([p1, p2] ++ [p3])) := by
      rcases hz166 with ⟨hm, H⟩ | hz
      · by_cases q : p3 = p1
        · exact Or.inl ⟨q, H⟩
        · refine Or.inr (Or.inl ⟨?_, q, H⟩); rcases List.mem_cons.mp hm with z | z; exact absurd z q; exact List.mem_singleton.mp z
      · exact Or.inr (Or.inr hz)
    rcases hw166 with hw166 | hw166 | hw166
    · have H166 := hw166.2
      have hm166 := hw166.1
      refine W.s1 (mkF m 79 #[.val (.int xsz), .val (.int xa), .val (.int xb), .val (.int xc), .val (.int xd), .val (.int xn), .val (.int p1), .val (.int p2), .val (.int p3), .val (.int xq), .val (.ref b101), .unset, .unset, .unset, .unset, .unset, .unset, .unset, .unset] [(.ref b101)]) (fun _ kx_ => XS.aload X166.here hx rfl (hb hby at_77) rfl rfl kx_) ?_
      have Zo_79 := Z166
      have hge_at1 : ap < h166.size ∧ an < h166.size := by obtain ⟨_, _, _, _, _, _, _, q1, q2, _⟩ := H166; exact ⟨q1.lt, q2.lt⟩
      obtain ⟨cq168, kq168, q168a, q168b, q168c⟩ := isOf hZ e166 f167
      obtain ⟨_, _, ⟨T168, L168, k168, n168⟩, -, X168, ⟨Lc168, hQ168, l168, y168, z168⟩, st168⟩ := X166.virtualBack hx (y := (⟨"com/example/tempora/tempora/NotedPoints", "take", "()[I"⟩ : MethodName)) (z := (⟨"com/example/tempora/tempora/NotedPoints", "take", "()[I"⟩ : MethodName)) hown (mvT hZ (hw _ (List.mem_of_getElem? (i := 23) rfl))) (mvT hZ (hw _ (List.mem_of_getElem? (i := 24) rfl))) (notFace_of_selects (args := #[]) (mvT hZ (hw _ (List.mem_of_getElem? (i := 26) rfl)))) (mvT hZ (hw _ (List.mem_of_getElem? (i := 26) rfl))) (mvT hZ (hw _ (List.mem_of_getElem? (i := 25) rfl))) (by decide) (backOf (W := 0) (rm4 l Z a0 hw [] b101 ap an n xn [p1, p2] h166 n0 Z166 hn hn8 (by show 2 ≤ n; have := own_ne hm112_0; skip; omega) H166 hp4 hp5 hp3 ge101 ge_ap ge_an) hZ (hw _ (List.mem_of_getElem? (i := 27) rfl)) (hw _ (List.mem_of_getElem? (i := 3) rfl)) (by decide) (by decide)) q168a q168c (g := (mkF m 79 #[.val (.int xsz), .val (.int xa), .val (.int xb), .val (.int xc), .val (.int xd), .val (.int xn), .val (.int p1), .val (.int p2), .val (.int p3), .val (.int xq), .val (.ref b101), .unset, .unset, .unset, .unset, .unset, .unset, .unset, .unset] [(.ref b101)])) rfl (by rw [hml]; rfl) (Steps.refl _) (argsL := []) (rest := []) (lenOf pd_4 rfl) rfl (by show 2 * 0 + _ ≤ _; exact Nat.le_of_eq rfl) (hb hby at_79) (fun _ _ => ⟨rfl, e166, (by decide : 3 + 1 ≤ _), (by decide : 19 + 8 ≤ _)⟩)
      dsimp only [Pt.U, Pt.locs, Pt.cells, Pt.slots] at X168 l168 y168 z168 st168 hQ168
      subst l168 y168 z168
      obtain ⟨h168, e168⟩ : ∃ z, T168.heap = z := ⟨_, rfl⟩
      rw [e168] at hQ168
      obtain ⟨at1, rfl, Nq168, Kq168, hgtat1, hltat1, A168, H168⟩ := hQ168
      have N168 := Fr.app N166 Nq168
      have Z168 : n0 ≤ h168.size := Nat.le_trans Z166 Kq168.1
      have f169 := f167.keep Kq168
      have ne170 : b101 ≠ at1 := Nat.ne_of_lt (Nat.lt_of_lt_of_le f167.lt hgtat1)
      have ge171 : n0 ≤ at1 := Nat.le_trans Zo_79 hgtat1
      have ne_ap_at1 : ap ≠ at1 := Nat.ne_of_lt (Nat.lt_of_lt_of_le hge_at1.1 hgtat1)
      have ne_an_at1 : an ≠ at1 := Nat.ne_of_lt (Nat.lt_of_lt_of_le hge_at1.2 hgtat1)
      refine W.s3 (mkF m 82 #[.val (.int xsz), .val (.int xa), .val (.int xb), .val (.int xc), .val (.int xd), .val (.int xn), .val (.int p1), .val (.int p2), .val (.int p3), .val (.int xq), .val (.ref b101), .unset, .unset, .unset, .unset, .unset, .unset, .unset, .unset] [(.ref at1)]) st168 ?_
      refine W.s1 (mkF m 84 #[.val (.int xsz), .val (.int xa), .val (.int xb), .val (.int xc), .val (.int xd), .val (.int xn), .val (.int p1), .val (.int p2), .val (.int p3), .val (.int xq), .val (.ref b101), .val (.ref at1), .unset, .unset, .unset, .unset, .unset, .unset, .unset] []) (fun _ kx_ => XS.astore X168.here hx rfl (hb hby at_82) rfl rfl (l' := #[.val (.int xsz), .val (.int xa), .val (.int xb), .val (.int xc), .val (.int xd), .val (.int xn), .val (.int p1), .val (.int p2), .val (.int p3), .val (.int xq), .val (.ref b101), .val (.ref at1), .unset, .unset, .unset, .unset, .unset, .unset, .unset]) rfl kx_) ?_
      refine W.s1 (mkF m 85 #[.val (.int xsz), .val (.int xa), .val (.int xb), .val (.int xc), .val (.int xd), .val (.int xn), .val (.int p1), .val (.int p2), .val (.int p3), .val (.int xq), .val (.ref b101), .val (.ref at1), .unset, .unset, .unset, .unset, .unset, .unset, .unset] [(.int (-1 : Int32))]) (fun _ kx_ => XS.iconst X168.here hx rfl (hb hby at_84) kx_) ?_
      refine W.s1 (mkF m 87 #[.val (.int xsz), .val (.int xa), .val (.int xb), .val (.int xc), .val (.int xd), .val (.int xn), .val (.int p1), .val (.int p2), .val (.int p3), .val (.int xq), .val (.ref b101), .val (.ref at1), .val (.int (-1 : Int32)), .unset, .unset, .unset, .unset, .unset, .unset] []) (fun _ kx_ => XS.istore X168.here hx rfl (hb hby at_85) rfl (l' := #[.val (.int xsz), .val (.int xa), .val (.int xb), .val (.int xc), .val (.int xd), .val (.int xn), .val (.int p1), .val (.int p2), .val (.int p3), .val (.int xq), .val (.ref b101), .val (.ref at1), .val (.int (-1 : Int32)), .unset, .unset, .unset, .unset, .unset, .unset]) rfl kx_) ?_
      refine W.s1 (mkF m 88 #[.val (.int xsz), .val (.int xa), .val (.int xb), .val (.int xc), .val (.int xd), .val (.int xn), .val (.int p1), .val (.int p2), .val (.int p3), .val (.int xq), .val (.ref b101), .val (.ref at1), .val (.int (-1 : Int32)), .unset, .unset, .unset, .unset, .unset, .unset] [(.int (-1 : Int32))]) (fun _ kx_ => XS.iconst X168.here hx rfl (hb hby at_87) kx_) ?_
      refine W.s1 (mkF m 90 #[.val (.int xsz), .val (.int xa), .val (.int xb), .val (.int xc), .val (.int xd), .val (.int xn), .val (.int p1), .val (.int p2), .val (.int p3), .val (.int xq), .val (.ref b101), .val (.ref at1), .val (.int (-1 : Int32)), .val (.int (-1 : Int32)), .unset, .unset, .unset, .unset, .unset] []) (fun _ kx_ => XS.istore X168.here hx rfl (hb hby at_88) rfl (l' := #[.val (.int xsz), .val (.int xa), .val (.int xb), .val (.int xc), .val (.int xd), .val (.int xn), .val (.int p1), .val (.int p2), .val (.int p3), .val (.int xq), .val (.ref b101), .val (.ref at1), .val (.int (-1 : Int32)), .val (.int (-1 : Int32)), .unset, .unset, .unset, .unset, .unset]) rfl kx_) ?_
      refine W.s1 (mkF m 91 #[.val (.int xsz), .val (.int xa), .val (.int xb), .val (.int xc), .val (.int xd), .val (.int xn), .val (.int p1), .val (.int p2), .val (.int p3), .val (.int xq), .val (.ref b101), .val (.ref at1), .val (.int (-1 : Int32)), .val (.int (-1 : Int32)), .unset, .unset, .unset, .unset, .unset] [(.int (1 : Int32))]) (fun _ kx_ => XS.iconst X168.here hx rfl (hb hby at_90) kx_) ?_
      refine W.s1 (mkF m 93 #[.val (.int xsz), .val (.int xa), .val (.int xb), .val (.int xc), .val (.int xd), .val (.int xn), .val (.int p1), .val (.int p2), .val (.int p3), .val (.int xq), .val (.ref b101), .val (.ref at1), .val (.int (-1 : Int32)), .val (.int (-1 : Int32)), .val (.int (1 : Int32)), .unset, .unset, .unset, .unset] []) (fun _ kx_ => XS.istore X168.here hx rfl (hb hby at_91) rfl (l' := #[.val (.int xsz), .val (.int xa), .val (.int xb), .val (.int xc), .val (.int xd), .val (.int xn), .val (.int p1), .val (.int p2), .val (.int p3), .val (.int xq), .val (.ref b101), .val (.ref at1), .val (.int (-1 : Int32)), .val (.int (-1 : Int32)), .val (.int (1 : Int32)), .unset, .unset, .unset, .unset]) rfl kx_) ?_
      refine W.s1 (mkF m 95 #[.val (.int xsz), .val (.int xa), .val (.int xb), .val (.int xc), .val (.int xd), .val (.int xn), .val (.int p1), .val (.int p2), .val (.int p3), .val (.int xq), .val (.ref b101), .val (.ref at1), .val (.int (-1 : Int32)), .val (.int (-1 : Int32)), .val (.int (1 : Int32)), .unset, .unset, .unset, .unset] [(.int p2)]) (fun _ kx_ => XS.iload X168.here hx rfl (hb hby at_93) rfl kx_) ?_
      refine W.s1 (mkF m 97 #[.val (.int xsz), .val (.int xa), .val (.int xb), .val (.int xc), .val (.int xd), .val (.int xn), .val (.int p1), .val (.int p2), .val (.int p3), .val (.int xq), .val (.ref b101), .val (.ref at1), .val (.int (-1 : Int32)), .val (.int (-1 : Int32)), .val (.int (1 : Int32)), .unset, .unset, .unset, .unset] [(.int p1), (.int p2)]) (fun _ kx_ => XS.iload X168.here hx rfl (hb hby at_95) rfl kx_) ?_
      refine W.icmp X168 hx (hb hby at_97) (pc' := 107) (pc'' := 100) (by decide) (by decide) rfl (fun (c97 : p2 = p1) => ?_) (fun (c97 : ¬ p2 = p1) => ?_)
      · exact absurd c97 hm112_0
      · refine W.s1 (mkF m 102 #[.val (.int xsz), .val (.int xa), .val (.int xb), .val (.int xc), .val (.int xd), .val (.int xn), .val (.int p1), .val (.int p2), .val (.int p3), .val (.int xq), .val (.ref b101), .val (.ref at1), .val (.int (-1 : Int32)), .val (.int (-1 : Int32)), .val (.int (1 : Int32)), .unset, .unset, .unset, .unset] [(.int p2)]) (fun _ kx_ => XS.iload X168.here hx rfl (hb hby at_100) rfl kx_) ?_
        refine W.s1 (mkF m 104 #[.val (.int xsz), .val (.int xa), .val (.int xb), .val (.int xc), .val (.int xd), .val (.int xn), .val (.int p1), .val (.int p2), .val (.int p3), .val (.int xq), .val (.ref b101), .val (.ref at1), .val (.int p2), .val (.int (-1 : Int32)), .val (.int (1 : Int32)), .unset, .unset, .unset, .unset] []) (fun _ kx_ => XS.istore X168.here hx rfl (hb hby at_102) rfl (l' := #[.val (.int xsz), .val (.int xa), .val (.int xb), .val (.int xc), .val (.int xd), .val (.int xn), .val (.int p1), .val (.int p2), .val (.int p3), .val (.int xq), .val (.ref b101), .val (.ref at1), .val (.int p2), .val (.int (-1 : Int32)), .val (.int (1 : Int32)), .unset, .unset, .unset, .unset]) rfl kx_) ?_
        refine W.s1 (mkF m 105 #[.val (.int xsz), .val (.int xa), .val (.int xb), .val (.int xc), .val (.int xd), .val (.int xn), .val (.int p1), .val (.int p2), .val (.int p3), .val (.int xq), .val (.ref b101), .val (.ref at1), .val (.int p2), .val (.int (-1 : Int32)), .val (.int (1 : Int32)), .unset, .unset, .unset, .unset] [(.int (2 : Int32))]) (fun _ kx_ => XS.iconst X168.here hx rfl (hb hby at_104) kx_) ?_
        refine W.s1 (mkF m 107 #[.val (.int xsz), .val (.int xa), .val (.int xb), .val (.int xc), .val (.int xd), .val (.int xn), .val (.int p1), .val (.int p2), .val (.int p3), .val (.int xq), .val (.ref b101), .val (.ref at1), .val (.int p2), .val (.int (-1 : Int32)), .val (.int (2 : Int32)), .unset, .unset, .unset, .unset] []) (fun _ kx_ => XS.istore X168.here hx rfl (hb hby at_105) rfl (l' := #[.val (.int xsz), .val (.int xa), .val (.int xb), .val (.int xc), .val (.int xd), .val (.int xn), .val (.int p1), .val (.int p2), .val (.int p3), .val (.int xq), .val (.ref b101), .val (.ref at1), .val (.int p2), .val (.int (-1 : Int32)), .val (.int (2 : Int32)), .unset, .unset, .unset, .unset]) rfl kx_) ?_
        refine W.s1 (mkF m 109 #[.val (.int xsz), .val (.int xa), .val (.int xb), .val (.int xc), .val (.int xd), .val (.int xn), .val (.int p1), .val (.int p2), .val (.int p3), .val (.int xq), .val (.ref b101), .val (.ref at1), .val (.int p2), .val (.int (-1 : Int32)), .val (.int (2 : Int32)), .unset, .unset, .unset, .unset] [(.int p3)]) (fun _ kx_ => XS.iload X168.here hx rfl (hb hby at_107) rfl kx_) ?_
        refine W.s1 (mkF m 111 #[.val (.int xsz), .val (.int xa), .val (.int xb), .val (.int xc), .val (.int xd), .val (.int xn), .val (.int p1), .val (.int p2), .val (.int p3), .val (.int xq), .val (.ref b101), .val (.ref at1), .val (.int p2), .val (.int (-1 : Int32)), .val (.int (2 : Int32)), .unset, .unset, .unset, .unset] [(.int p1), (.int p3)]) (fun _ kx_ => XS.iload X168.here hx rfl (hb hby at_109) rfl kx_) ?_
        refine W.icmp X168 hx (hb hby at_111) (pc' := 144) (pc'' := 114) (by decide) (by decide) rfl (fun (c111 : p3 = p1) => ?_) (fun (c111 : ¬ p3 = p1) => ?_)
        · refine W.s1 (mkF m 146 #[.val (.int xsz), .val (.int xa), .val (.int xb), .val (.int xc), .val (.int xd), .val (.int xn), .val (.int p1), .val (.int p2), .val (.int p3), .val (.int xq), .val (.ref b101), .val (.ref at1), .val (.int p2), .val (.int (-1 : Int32)), .val (.int (2 : Int32)), .unset, .unset, .unset, .unset] [(.ref at1)]) (fun _ kx_ => XS.aload X168.here hx rfl (hb hby at_144) rfl rfl kx_) ?_
          refine W.s1 (mkF m 148 #[.val (.int xsz), .val (.int xa), .val (.int xb), .val (.int xc), .val (.int xd), .val (.int xn), .val (.int p1), .val (.int p2), .val (.int p3), .val (.int xq), .val (.ref b101), .val (.ref at1), .val (.int p2), .val (.int (-1 : Int32)), .val (.int (2 : Int32)), .unset, .unset, .unset, .unset] [(.int (2 : Int32)), (.ref at1)]) (fun _ kx_ => XS.iload X168.here hx rfl (hb hby at_146) rfl kx_) ?_
          refine W.s1 (mkF m 150 #[.val (.int xsz), .val (.int xa), .val (.int xb), .val (.int xc), .val (.int xd), .val (.int xn), .val (.int p1), .val (.int p2), .val (.int p3), .val (.int xq), .val (.ref b101), .val (.ref at1), .val (.int p2), .val (.int (-1 : Int32)), .val (.int (2 : Int32)), .unset, .unset, .unset, .unset] [(.int p1), (.int (2 : Int32)), (.ref at1)]) (fun _ kx_ => XS.iload X168.here hx rfl (hb hby at_148) rfl kx_) ?_
          refine W.s1 (mkF m 152 #[.val (.int xsz), .val (.int xa), .val (.int xb), .val (.int xc), .val (.int xd), .val (.int xn), .val (.int p1), .val (.int p2), .val (.int p3), .val (.int xq), .val (.ref b101), .val (.ref at1), .val (.int p2), .val (.int (-1 : Int32)), .val (.int (2 : Int32)), .unset, .unset, .unset, .unset] [(.int p2), (.int p1), (.int (2 : Int32)), (.ref at1)]) (fun _ kx_ => XS.iload X168.here hx rfl (hb hby at_150) rfl kx_) ?_
          refine W.s1 (mkF m 154 #[.val (.int xsz), .val (.int xa), .val (.int xb), .val (.int xc), .val (.int xd), .val (.int xn), .val (.int p1), .val (.int p2), .val (.int p3), .val (.int xq), .val (.ref b101), .val (.ref at1), .val (.int p2), .val (.int (-1 : Int32)), .val (.int (2 : Int32)), .unset, .unset, .unset, .unset] [(.int (-1 : Int32)), (.int p2), (.int p1), (.int (2 : Int32)), (.ref at1)]) (fun _ kx_ => XS.iload X168.here hx rfl (hb hby at_152) rfl kx_) ?_
          obtain ⟨_, _, ⟨T172, L172, k172, n172⟩, -, X172, ⟨Lc172, hQ172, l172, y172, z172⟩, st172⟩ := Jvm.LawKit.callS X168 hx (y := (⟨"com/example/tempora/tempora/NotedPointsNotePinLaw", "same", "([IIIII)Z"⟩ : MethodName)) hown (mvT hZ (hw _ (List.mem_of_getElem? (i := 46) rfl))) (mvT hZ (hw _ (List.mem_of_getElem? (i := 47) rfl))) (mvT hZ (hw _ (List.mem_of_getElem? (i := 48) rfl))) (mvT hZ (hw _ (List.mem_of_getElem? (i := 49) rfl))) (by decide) (backOf (W := 0) (rm7 l Z a0 hw [] at1 (2 : Int32) p1 p2 (-1 : Int32) 2 (fun i => [p1, p2].getD i 0) h168 n0 Z168 A168 rfl (fun _ => rfl) (fun _ => rfl) (fun q => absurd q (by decide))) hZ (hw _ (List.mem_of_getElem? (i := 49) rfl)) (hw _ (List.mem_of_getElem? (i := 48) rfl)) (by decide) (by decide)) (g := (mkF m 154 #[.val (.int xsz), .val (.int xa), .val (.int xb), .val (.int xc), .val (.int xd), .val (.int xn), .val (.int p1), .val (.int p2), .val (.int p3), .val (.int xq), .val (.ref b101), .val (.ref at1), .val (.int p2), .val (.int (-1 : Int32)), .val (.int (2 : Int32)), .unset, .unset, .unset, .unset] [(.int (-1 : Int32)), (.int p2), (.int p1), (.int (2 : Int32)), (.ref at1)])) rfl (by rw [hml]; rfl) (argsL := [(.ref at1), (.int (2 : Int32)), (.int p1), (.int p2), (.int (-1 : Int32))]) (rest := []) (lenOf pd_5 rfl) rfl (by show 2 * 0 + _ ≤ _; exact Nat.le_of_eq rfl) (hb hby at_154) (fun _ _ => ⟨rfl, e168, (by decide : 4 + 0 ≤ _), (by decide : 27 + 0 ≤ _)⟩)
          dsimp only [Pt.U, Pt.locs, Pt.cells, Pt.slots] at X172 l172 y172 z172 st172 hQ172
          subst l172 y172 z172
          obtain ⟨rfl, Nq172, eq172⟩ := hQ172
          have N172 := Fr.app N168 Nq172
          refine W.s2 (mkF m 157 #[.val (.int xsz), .val (.int xa), .val (.int xb), .val (.int xc), .val (.int xd), .val (.int xn), .val (.int p1), .val (.int p2), .val (.int p3), .val (.int xq), .val (.ref b101), .val (.ref at1), .val (.int p2), .val (.int (-1 : Int32)), .val (.int (2 : Int32)), .unset, .unset, .unset, .unset] [(.int (1 : Int32))]) st172 ?_
          refine W.s1 (mkF m 159 #[.val (.int xsz), .val (.int xa), .val (.int xb), .val (.int xc), .val (.int xd), .val (.int xn), .val (.int p1), .val (.int p2), .val (.int p3), .val (.int xq), .val (.ref b101), .val (.ref at1), .val (.int p2), .val (.int (-1 : Int32)), .val (.int (2 : Int32)), .val (.int (1 : Int32)), .unset, .unset, .unset] []) (fun _ kx_ => XS.istore X172.here hx rfl (hb hby at_157) rfl (l' := #[.val (.int xsz), .val (.int xa), .val (.int xb), .val (.int xc), .val (.int xd), .val (.int xn), .val (.int p1), .val (.int p2), .val (.int p3), .val (.int xq), .val (.ref b101), .val (.ref at1), .val (.int p2), .val (.int (-1 : Int32)), .val (.int (2 : Int32)), .val (.int (1 : Int32)), .unset, .unset, .unset]) rfl kx_) ?_
          refine W.s1 (mkF m 161 #[.val (.int xsz), .val (.int xa), .val (.int xb), .val (.int xc), .val (.int xd), .val (.int xn), .val (.int p1), .val (.int p2), .val (.int p3), .val (.int xq), .val (.ref b101), .val (.ref at1), .val (.int p2), .val (.int (-1 : Int32)), .val (.int (2 : Int32)), .val (.int (1 : Int32)), .unset, .unset, .unset] [(.ref b101)]) (fun _ kx_ => XS.aload X172.here hx rfl (hb hby at_159) rfl rfl kx_) ?_
          refine W.s1 (mkF m 163 #[.val (.int xsz), .val (.int xa), .val (.int xb), .val (.int xc), .val (.int xd), .val (.int xn), .val (.int p1), .val (.int p2), .val (.int p3), .val (.int xq), .val (.ref b101), .val (.ref at1), .val (.int p2), .val (.int (-1 : Int32)), .val (.int (2 : Int32)), .val (.int (1 : Int32)), .unset, .unset, .unset] [(.int xq), (.ref b101)]) (fun _ kx_ => XS.iload X172.here hx rfl (hb hby at_161) rfl kx_) ?_
          obtain ⟨cq173, kq173, q173a, q173b, q173c⟩ := isOf hZ eq172 f169
          obtain ⟨_, _, ⟨T173, L173, k173, n173⟩, -, X173, ⟨Lc173, hQ173, l173, y173, z173⟩, st173⟩ := X172.virtualBack hx (y := (⟨"com/example/tempora/tempora/NotedPoints", "note", "(I)V"⟩ : MethodName)) (z := (⟨"com/example/tempora/tempora/NotedPoints", "note", "(I)V"⟩ : MethodName)) hown (mvT hZ (hw _ (List.mem_of_getElem? (i := 16) rfl))) (mvT hZ (hw _ (List.mem_of_getElem? (i := 17) rfl))) (notFace_of_selects (args := #[]) (mvT hZ (hw _ (List.mem_of_getElem? (i := 19) rfl)))) (mvT hZ (hw _ (List.mem_of_getElem? (i := 19) rfl))) (mvT hZ (hw _ (List.mem_of_getElem? (i := 18) rfl))) (by decide) (backOf (W := 0) (rm3 l Z a0 hw [] b101 xq ap an n xn [] k4 h168 n0 Z168 hn hn8 H168 hk4 hl4 (Or.inr hn1) hp4 hp5 hp3 ge101 ge_ap ge_an) hZ (hw _ (List.mem_of_getElem? (i := 20) rfl)) (hw _ (List.mem_of_getElem? (i := 3) rfl)) (by decide) (by decide)) q173a q173c (g := (mkF m 163 #[.val (.int xsz), .val (.int xa), .val (.int xb), .val (.int xc), .val (.int xd), .val (.int xn), .val (.int p1), .val (.int p2), .val (.int p3), .val (.int xq), .val (.ref b101), .val (.ref at1), .val (.int p2), .val (.int (-1 : Int32)), .val (.int (2 : Int32)), .val (.int (1 : Int32)), .unset, .unset, .unset] [(.int xq), (.ref b101)])) rfl (by rw [hml]; rfl) (Steps.refl _) (argsL := [(.int xq)]) (rest := []) (lenOf pd_3 rfl) rfl (by show 2 * 0 + _ ≤ _; exact Nat.le_of_eq rfl) (hb hby at_163) (fun _ _ => ⟨rfl, eq172, (by decide : 4 + 0 ≤ _), (by decide : 27 + 0 ≤ _)⟩)
          dsimp only [Pt.U, Pt.locs, Pt.cells, Pt.slots] at X173 l173 y173 z173 st173 hQ173
          subst l173 y173 z173
          obtain ⟨h173, e173⟩ : ∃ z, T173.heap = z := ⟨_, rfl⟩
          rw [e173] at hQ173
          obtain ⟨rfl, Nq173, Kq173, hz173⟩ := hQ173
          have N173 := Fr.app N172 Nq173
          have Z173 : n0 ≤ h173.size := Nat.le_trans Z168 Kq173.1
          have f174 := f169.keep Kq173
          have f175 := A168.keep Kq173 (ninS (Ne.symm ne170) (ninS (Ne.symm ne_ap_at1) (ninS (Ne.symm ne_an_at1) nin0)))
          have H173 : own_NP Z h173 b101 ap an n [xq] := hz173.elim (fun q => absurd q.1 List.not_mem_nil) (fun q => q.2)
          refine W.s3 (mkF m 166 #[.val (.int xsz), .val (.int xa), .val (.int xb), .val (.int xc), .val (.int xd), .val (.int xn), .val (.int p1), .val (.int p2), .val (.int p3), .val (.int xq), .val (.ref b101), .val (.ref at1), .val (.int p2), .val (.int (-1 : Int32)), .val (.int (2 : Int32)), .val (.int (1 : Int32)), .unset, .unset, .unset] []) st173 ?_
          refine W.s1 (mkF m 168 #[.val (.int xsz), .val (.int xa), .val (.int xb), .val (.int xc), .val (.int xd), .val (.int xn), .val (.int p1), .val (.int p2), .val (.int p3), .val (.int xq), .val (.ref b101), .val (.ref at1), .val (.int p2), .val (.int (-1 : Int32)), .val (.int (2 : Int32)), .val (.int (1 : Int32)), .unset, .unset, .unset] [(.ref b101)]) (fun _ kx_ => XS.aload X173.here hx rfl (hb hby at_166) rfl rfl kx_) ?_
          refine W.s1 (mkF m 170 #[.val (.int xsz), .val (.int xa), .val (.int xb), .val (.int xc), .val (.int xd), .val (.int xn), .val (.int p1), .val (.int p2), .val (.int p3), .val (.int xq), .val (.ref b101), .val (.ref at1), .val (.int p2), .val (.int (-1 : Int32)), .val (.int (2 : Int32)), .val (.int (1 : Int32)), .unset, .unset, .unset] [(.int p1), (.ref b101)]) (fun _ kx_ => XS.iload X173.here hx rfl (hb hby at_168) rfl kx_) ?_
          obtain ⟨cq176, kq176, q176a, q176b, q176c⟩ := isOf hZ e173 f174
          obtain ⟨_, _, ⟨T176, L176, k176, n176⟩, -, X176, ⟨Lc176, hQ176, l176, y176, z176⟩, st176⟩ := X173.virtualBack hx (y := (⟨"com/example/tempora/tempora/NotedPoints", "note", "(I)V"⟩ : MethodName)) (z := (⟨"com/example/tempora/tempora/NotedPoints", "note", "(I)V"⟩ : MethodName)) hown (mvT hZ (hw _ (List.mem_of_getElem? (i := 16) rfl))) (mvT hZ (hw _ (List.mem_of_getElem? (i := 17) rfl))) (notFace_of_selects (args := #[]) (mvT hZ (hw _ (List.mem_of_getElem? (i := 19) rfl)))) (mvT hZ (hw _ (List.mem_of_getElem? (i := 19) rfl))) (mvT hZ (hw _ (List.mem_of_getElem? (i := 18) rfl))) (by decide) (backOf (W := 0) (rm3 l Z a0 hw [] b101 p1 ap an n xn [xq] k1 h173 n0 Z173 hn hn8 H173 hk1 hl1 (if q : p1 ∈ ([xq] : List Int32) then Or.inl q else Or.inr (by simp only [List.mem_cons, List.not_mem_nil, or_false, not_or] at q; have := own_ne q; skip; show 1 < n; omega)) hp4 hp5 hp3 ge101 ge_ap ge_an) hZ (hw _ (List.mem_of_getElem? (i := 20) rfl)) (hw _ (List.mem_of_getElem? (i := 3) rfl)) (by decide) (by decide)) q176a q176c (g := (mkF m 170 #[.val (.int xsz), .val (.int xa), .val (.int xb), .val (.int xc), .val (.int xd), .val (.int xn), .val (.int p1), .val (.int p2), .val (.int p3), .val (.int xq), .val (.ref b101), .val (.ref at1), .val (.int p2), .val (.int (-1 : Int32)), .val (.int (2 : Int32)), .val (.int (1 : Int32)), .unset, .unset, .unset] [(.int p1), (.ref b101)])) rfl (by rw [hml]; rfl) (Steps.refl _) (argsL := [(.int p1)]) (rest := []) (lenOf pd_3 rfl) rfl (by show 2 * 0 + _ ≤ _; exact Nat.le_of_eq rfl) (hb hby at_170) (fun _ _ => ⟨rfl, e173, (by decide : 4 + 0 ≤ _), (by decide : 27 + 0 ≤ _)⟩)
          dsimp only [Pt.U, Pt.locs, Pt.cells, Pt.slots] at X176 l176 y176 z176 st176 hQ176
          subst l176 y176 z176
          obtain ⟨h176, e176⟩ : ∃ z, T176.heap = z := ⟨_, rfl⟩
          rw [e176] at hQ176
          obtain ⟨rfl, Nq176, Kq176, hz176⟩ := hQ176
          have N176 := Fr.app N173 Nq176
          have Z176 : n0 ≤ h176.size := Nat.le_trans Z173 Kq176.1
          have f177 := f174.keep Kq176
          have f178 := f175.keep Kq176 (ninS (Ne.symm ne170) (ninS (Ne.symm ne_ap_at1) (ninS (Ne.symm ne_an_at1) nin0)))
          refine W.s3 (mkF m 173 #[.val (.int xsz), .val (.int xa), .val (.int xb), .val (.int xc), .val (.int xd), .val (.int xn), .val (.int p1), .val (.int p2), .val (.int p3), .val (.int xq), .val (.ref b101), .val (.ref at1), .val (.int p2), .val (.int (-1 : Int32)), .val (.int (2 : Int32)), .val (.int (1 : Int32)), .unset, .unset, .unset] []) st176 ?_
          rcases hz176 with hz176 | hz176
          · have H176 := hz176.2
            have hm176 : p1 = xq := List.mem_singleton.mp hz176.1
            refine W.s1 (mkF m 175 #[.val (.int xsz), .val (.int xa), .val (.int xb), .val (.int xc), .val (.int xd), .val (.int xn), .val (.int p1), .val (.int p2), .val (.int p3), .val (.int xq), .val (.ref b101), .val (.ref at1), .val (.int p2), .val (.int (-1 : Int32)), .val (.int (2 : Int32)), .val (.int (1 : Int32)), .unset, .unset, .unset] [(.ref b101)]) (fun _ kx_ => XS.aload X176.here hx rfl (hb hby at_173) rfl rfl kx_) ?_
            have Zo_175 := Z176
            have hge_at2 : ap < h176.size ∧ an < h176.size := by obtain ⟨_, _, _, _, _, _, _, q1, q2, _⟩ := H176; exact ⟨q1.lt, q2.lt⟩
            obtain ⟨cq179, kq179, q179a, q179b, q179c⟩ := isOf hZ e176 f177
            obtain ⟨_, _, ⟨T179, L179, k179, n179⟩, -, X179, ⟨Lc179, hQ179, l179, y179, z179⟩, st179⟩ := X176.virtualBack hx (y := (⟨"com/example/tempora/tempora/NotedPoints", "take", "()[I"⟩ : MethodName)) (z := (⟨"com/example/tempora/tempora/NotedPoints", "take", "()[I"⟩ : MethodName)) hown (mvT hZ (hw _ (List.mem_of_getElem? (i := 23) rfl))) (mvT hZ (hw _ (List.mem_of_getElem? (i := 24) rfl))) (notFace_of_selects (args := #[]) (mvT hZ (hw _ (List.mem_of_getElem? (i := 26) rfl)))) (mvT hZ (hw _ (List.mem_of_getElem? (i := 26) rfl))) (mvT hZ (hw _ (List.mem_of_getElem? (i := 25) rfl))) (by decide) (backOf (W := 0) (rm4 l Z a0 hw [] b101 ap an n xn [xq] h176 n0 Z176 hn hn8 (by show 1 ≤ n; skip; omega) H176 hp4 hp5 hp3 ge101 ge_ap ge_an) hZ (hw _ (List.mem_of_getElem? (i := 27) rfl)) (hw _ (List.mem_of_getElem? (i := 3) rfl)) (by decide) (by decide)) q179a q179c (g := (mkF m 175 #[.val (.int xsz), .val (.int xa), .val (.int xb), .val (.int xc), .val (.int xd), .val (.int xn), .val (.int p1), .val (.int p2), .val (.int p3), .val (.int xq), .val (.ref b101), .val (.ref at1), .val (.int p2), .val (.int (-1 : Int32)), .val (.int (2 : Int32)), .val (.int (1 : Int32)), .unset, .unset, .unset] [(.ref b101)])) rfl (by rw [hml]; rfl) (Steps.refl _) (argsL := []) (rest := []) (lenOf pd_4 rfl) rfl (by show 2 * 0 + _ ≤ _; exact Nat.le_of_eq rfl) (hb hby at_175) (fun _ _ => ⟨rfl, e176, (by decide : 4 + 1 ≤ _), (by decide : 27 + 8 ≤ _)⟩)
            dsimp only [Pt.U, Pt.locs, Pt.cells, Pt.slots] at X179 l179 y179 z179 st179 hQ179
            subst l179 y179 z179
            obtain ⟨h179, e179⟩ : ∃ z, T179.heap = z := ⟨_, rfl⟩
            rw [e179] at hQ179
            obtain ⟨at2, rfl, Nq179, Kq179, hgtat2, hltat2, A179, H179⟩ := hQ179
            have N179 := Fr.app N176 Nq179
            have Z179 : n0 ≤ h179.size := Nat.le_trans Z176 Kq179.1
            have f180 := f177.keep Kq179
            have f181 := f178.keep Kq179 (ninS (Ne.symm ne170) (ninS (Ne.symm ne_ap_at1) (ninS (Ne.symm ne_an_at1) nin0)))
            have ne182 : b101 ≠ at2 := Nat.ne_of_lt (Nat.lt_of_lt_of_le f177.lt hgtat2)
            have ne183 : at1 ≠ at2 := Nat.ne_of_lt (Nat.lt_of_lt_of_le f178.lt hgtat2)
            have ge184 : n0 ≤ at2 := Nat.le_trans Zo_175 hgtat2
            have ne_ap_at2 : ap ≠ at2 := Nat.ne_of_lt (Nat.lt_of_lt_of_le hge_at2.1 hgtat2)
            have ne_an_at2 : an ≠ at2 := Nat.ne_of_lt (Nat.lt_of_lt_of_le hge_at2.2 hgtat2)
            refine W.s3 (mkF m 178 #[.val (.int xsz), .val (.int xa), .val (.int xb), .val (.int xc), .val (.int xd), .val (.int xn), .val (.int p1), .val (.int p2), .val (.int p3), .val (.int xq), .val (.ref b101), .val (.ref at1), .val (.int p2), .val (.int (-1 : Int32)), .val (.int (2 : Int32)), .val (.int (1 : Int32)), .unset, .unset, .unset] [(.ref at2)]) st179 ?_
            refine W.s1 (mkF m 180 #[.val (.int xsz), .val (.int xa), .val (.int xb), .val (.int xc), .val (.int xd), .val (.int xn), .val (.int p1), .val (.int p2), .val (.int p3), .val (.int xq), .val (.ref b101), .val (.ref at1), .val (.int p2), .val (.int (-1 : Int32)), .val (.int (2 : Int32)), .val (.int (1 : Int32)), .val (.ref at2), .unset, .unset] []) (fun _ kx_ => XS.astore X179.here hx rfl (hb hby at_178) rfl rfl (l' := #[.val (.int xsz), .val (.int xa), .val (.int xb), .val (.int xc), .val (.int xd), .val (.int xn), .val (.int p1), .val (.int p2), .val (.int p3), .val (.int xq), .val (.ref b101), .val (.ref at1), .val (.int p2), .val (.int (-1 : Int32)), .val (.int (2 : Int32)), .val (.int (1 : Int32)), .val (.ref at2), .unset, .unset]) rfl kx_) ?_
            refine W.s1 (mkF m 182 #[.val (.int xsz), .val (.int xa), .val (.int xb), .val (.int xc), .val (.int xd), .val (.int xn), .val (.int p1), .val (.int p2), .val (.int p3), .val (.int xq), .val (.ref b101), .val (.ref at1), .val (.int p2), .val (.int (-1 : Int32)), .val (.int (2 : Int32)), .val (.int (1 : Int32)), .val (.ref at2), .unset, .unset] [(.int xq)]) (fun _ kx_ => XS.iload X179.here hx rfl (hb hby at_180) rfl kx_) ?_
            refine W.s1 (mkF m 184 #[.val (.int xsz), .val (.int xa), .val (.int xb), .val (.int xc), .val (.int xd), .val (.int xn), .val (.int p1), .val (.int p2), .val (.int p3), .val (.int xq), .val (.ref b101), .val (.ref at1), .val (.int p2), .val (.int (-1 : Int32)), .val (.int (2 : Int32)), .val (.int (1 : Int32)), .val (.ref at2), .unset, .unset] [(.int p1), (.int xq)]) (fun _ kx_ => XS.iload X179.here hx rfl (hb hby at_182) rfl kx_) ?_
            refine W.icmp X179 hx (hb hby at_184) (pc' := 191) (pc'' := 187) (by decide) (by decide) rfl (fun (c184 : ¬ xq = p1) => ?_) (fun (c184 : xq = p1) => ?_)
            · exact absurd hm176.symm c184
            · refine W.s1 (mkF m 188 #[.val (.int xsz), .val (.int xa), .val (.int xb), .val (.int xc), .val (.int xd), .val (.int xn), .val (.int p1), .val (.int p2), .val (.int p3), .val (.int xq), .val (.ref b101), .val (.ref at1), .val (.int p2), .val (.int (-1 : Int32)), .val (.int (2 : Int32)), .val (.int (1 : Int32)), .val (.ref at2), .unset, .unset] [(.int (1 : Int32))]) (fun _ kx_ => XS.iconst X179.here hx rfl (hb hby at_187) kx_) ?_
              refine W.s1 (mkF m 192 #[.val (.int xsz), .val (.int xa), .val (.int xb), .val (.int xc), .val (.int xd), .val (.int xn), .val (.int p1), .val (.int p2), .val (.int p3), .val (.int xq), .val (.ref b101), .val (.ref at1), .val (.int p2), .val (.int (-1 : Int32)), .val (.int (2 : Int32)), .val (.int (1 : Int32)), .val (.ref at2), .unset, .unset] [(.int (1 : Int32))]) (fun _ kx_ => XS.goto X179.here hx rfl (pc0 := 188) (pc' := 192) rfl (hb hby at_188) (by decide) (by decide) kx_) ?_
              refine W.s1 (mkF m 194 #[.val (.int xsz), .val (.int xa), .val (.int xb), .val (.int xc), .val (.int xd), .val (.int xn), .val (.int p1), .val (.int p2), .val (.int p3), .val (.int xq), .val (.ref b101), .val (.ref at1), .val (.int p2), .val (.int (-1 : Int32)), .val (.int (2 : Int32)), .val (.int (1 : Int32)), .val (.ref at2), .val (.int (1 : Int32)), .unset] []) (fun _ kx_ => XS.istore X179.here hx rfl (hb hby at_192) rfl (l' := #[.val (.int xsz), .val (.int xa), .val (.int xb), .val (.int xc), .val (.int xd), .val (.int xn), .val (.int p1), .val (.int p2), .val (.int p3), .val (.int xq), .val (.ref b101), .val (.ref at1), .val (.int p2), .val (.int (-1 : Int32)), .val (.int (2 : Int32)), .val (.int (1 : Int32)), .val (.ref at2), .val (.int (1 : Int32)), .unset]) rfl kx_) ?_
              refine W.s1 (mkF m 196 #[.val (.int xsz), .val (.int xa), .val (.int xb), .val (.int xc), .val (.int xd), .val (.int xn), .val (.int p1), .val (.int p2), .val (.int p3), .val (.int xq), .val (.ref b101), .val (.ref at1), .val (.int p2), .val (.int (-1 : Int32)), .val (.int (2 : Int32)), .val (.int (1 : Int32)), .val (.ref at2), .val (.int (1 : Int32)), .unset] [(.ref at2)]) (fun _ kx_ => XS.aload X179.here hx rfl (hb hby at_194) rfl rfl kx_) ?_
              refine W.s1 (mkF m 198 #[.val (.int xsz), .val (.int xa), .val (.int xb), .val (.int xc), .val (.int xd), .val (.int xn), .val (.int p1), .val (.int p2), .val (.int p3), .val (.int xq), .val (.ref b101), .val (.ref at1), .val (.int p2), .val (.int (-1 : Int32)), .val (.int (2 : Int32)), .val (.int (1 : Int32)), .val (.ref at2), .val (.int (1 : Int32)), .unset] [(.int (1 : Int32)), (.ref at2)]) (fun _ kx_ => XS.iload X179.here hx rfl (hb hby at_196) rfl kx_) ?_
              refine W.s1 (mkF m 200 #[.val (.int xsz), .val (.int xa), .val (.int xb), .val (.int xc), .val (.int xd), .val (.int xn), .val (.int p1), .val (.int p2), .val (.int p3), .val (.int xq), .val (.ref b101), .val (.ref at1), .val (.int p2), .val (.int (-1 : Int32)), .val (.int (2 : Int32)), .val (.int (1 : Int32)), .val (.ref at2), .val (.int (1 : Int32)), .unset] [(.int xq), (.int (1 : Int32)), (.ref at2)]) (fun _ kx_ => XS.iload X179.here hx rfl (hb hby at_198) rfl kx_) ?_
              refine W.s1 (mkF m 202 #[.val (.int xsz), .val (.int xa), .val (.int xb), .val (.int xc), .val (.int xd), .val (.int xn), .val (.int p1), .val (.int p2), .val (.int p3), .val (.int xq), .val (.ref b101), .val (.ref at1), .val (.int p2), .val (.int (-1 : Int32)), .val (.int (2 : Int32)), .val (.int (1 : Int32)), .val (.ref at2), .val (.int (1 : Int32)), .unset] [(.int p1), (.int xq), (.int (1 : Int32)), (.ref at2)]) (fun _ kx_ => XS.iload X179.here hx rfl (hb hby at_200) rfl kx_) ?_
              refine W.s1 (mkF m 203 #[.val (.int xsz), .val (.int xa), .val (.int xb), .val (.int xc), .val (.int xd), .val (.int xn), .val (.int p1), .val (.int p2), .val (.int p3), .val (.int xq), .val (.ref b101), .val (.ref at1), .val (.int p2), .val (.int (-1 : Int32)), .val (.int (2 : Int32)), .val (.int (1 : Int32)), .val (.ref at2), .val (.int (1 : Int32)), .unset] [(.int (-1 : Int32)), (.int p1), (.int xq), (.int (1 : Int32)), (.ref at2)]) (fun _ kx_ => XS.iconst X179.here hx rfl (hb hby at_202) kx_) ?_
              obtain ⟨_, _, ⟨T185, L185, k185, n185⟩, -, X185, ⟨Lc185, hQ185, l185, y185, z185⟩, st185⟩ := Jvm.LawKit.callS X179 hx (y := (⟨"com/example/tempora/tempora/NotedPointsNotePinLaw", "same", "([IIIII)Z"⟩ : MethodName)) hown (mvT hZ (hw _ (List.mem_of_getElem? (i := 46) rfl))) (mvT hZ (hw _ (List.mem_of_getElem? (i := 47) rfl))) (mvT hZ (hw _ (List.mem_of_getElem? (i := 48) rfl))) (mvT hZ (hw _ (List.mem_of_getElem? (i := 49) rfl))) (by decide) (backOf (W := 0) (rm7 l Z a0 hw [] at2 (1 : Int32) xq p1 (-1 : Int32) 1 (fun i => [xq].getD i 0) h179 n0 Z179 A179 rfl (fun _ => rfl) (fun q => absurd q (by decide)) (fun q => absurd q (by decide))) hZ (hw _ (List.mem_of_getElem? (i := 49) rfl)) (hw _ (List.mem_of_getElem? (i := 48) rfl)) (by decide) (by decide)) (g := (mkF m 203 #[.val (.int xsz), .val (.int xa), .val (.int xb), .val (.int xc), .val (.int xd), .val (.int xn), .val (.int p1), .val (.int p2), .val (.int p3), .val (.int xq), .val (.ref b101), .val (.ref at1), .val (.int p2), .val (.int (-1 : Int32)), .val (.int (2 : Int32)), .val (.int (1 : Int32)), .val (.ref at2), .val (.int (1 : Int32)), .unset] [(.int (-1 : Int32)), (.int p1), (.int xq), (.int (1 : Int32)), (.ref at2)])) rfl (by rw [hml]; rfl) (argsL := [(.ref at2), (.int (1 : Int32)), (.int xq), (.int p1), (.int (-1 : Int32))]) (rest := []) (lenOf pd_5 rfl) rfl (by show 2 * 0 + _ ≤ _; exact Nat.le_of_eq rfl) (hb hby at_203) (fun _ _ => ⟨rfl, e179, (by decide : 5 + 0 ≤ _), (by decide : 35 + 0 ≤ _)⟩)
              dsimp only [Pt.U, Pt.locs, Pt.cells, Pt.slots] at X185 l185 y185 z185 st185 hQ185
              subst l185 y185 z185
              obtain ⟨rfl, Nq185, eq185⟩ := hQ185
              have N185 := Fr.app N179 Nq185
              refine W.s2 (mkF m 206 #[.val (.int xsz), .val (.int xa), .val (.int xb), .val (.int xc), .val (.int xd), .val (.int xn), .val (.int p1), .val (.int p2), .val (.int p3), .val (.int xq), .val (.ref b101), .val (.ref at1), .val (.int p2), .val (.int (-1 : Int32)), .val (.int (2 : Int32)), .val (.int (1 : Int32)), .val (.ref at2), .val (.int (1 : Int32)), .unset] [(.int (1 : Int32))]) st185 ?_
              refine W.s1 (mkF m 208 #[.val (.int xsz), .val (.int xa), .val (.int xb), .val (.int xc), .val (.int xd), .val (.int xn), .val (.int p1), .val (.int p2), .val (.int p3), .val (.int xq), .val (.ref b101), .val (.ref at1), .val (.int p2), .val (.int (-1 : Int32)), .val (.int (2 : Int32)), .val (.int (1 : Int32)), .val (.ref at2), .val (.int (1 : Int32)), .val (.int (1 : Int32))] []) (fun _ kx_ => XS.istore X185.here hx rfl (hb hby at_206) rfl (l' := #[.val (.int xsz), .val (.int xa), .val (.int xb), .val (.int xc), .val (.int xd), .val (.int xn), .val (.int p1), .val (.int p2), .val (.int p3), .val (.int xq), .val (.ref b101), .val (.ref at1), .val (.int p2), .val (.int (-1 : Int32)), .val (.int (2 : Int32)), .val (.int (1 : Int32)), .val (.ref at2), .val (.int (1 : Int32)), .val (.int (1 : Int32))]) rfl kx_) ?_
              refine W.s1 (mkF m 210 #[.val (.int xsz), .val (.int xa), .val (.int xb), .val (.int xc), .val (.int xd), .val (.int xn), .val (.int p1), .val (.int p2), .val (.int p3), .val (.int xq), .val (.ref b101), .val (.ref at1), .val (.int p2), .val (.int (-1 : Int32)), .val (.int (2 : Int32)), .val (.int (1 : Int32)), .val (.ref at2), .val (.int (1 : Int32)), .val (.int (1 : Int32))] [(.int (1 : Int32))]) (fun _ kx_ => XS.iload X185.here hx rfl (hb hby at_208) rfl kx_) ?_
              refine W.ifc X185 hx (hb hby at_210) (pc' := 222) (pc'' := 213) (by decide) (by decide) rfl (fun (c210 : (1 : Int32) = (0 : Int32)) => ?_) (fun (c210 : ¬ (1 : Int32) = (0 : Int32)) => ?_)
              · exact absurd c210 (by decide)
              · refine W.s1 (mkF m 215 #[.val (.int xsz), .val (.int xa), .val (.int xb), .val (.int xc), .val (.int xd), .val (.int xn), .val (.int p1), .val (.int p2), .val (.int p3), .val (.int xq), .val (.ref b101), .val (.ref at1), .val (.int p2), .val (.int (-1 : Int32)), .val (.int (2 : Int32)), .val (.int (1 : Int32)), .val (.ref at2), .val (.int (1 : Int32)), .val (.int (1 : Int32))] [(.int (1 : Int32))]) (fun _ kx_ => XS.iload X185.here hx rfl (hb hby at_213) rfl kx_) ?_
                refine W.ifc X185 hx (hb hby at_215) (pc' := 222) (pc'' := 218) (by decide) (by decide) rfl (fun (c215 : (1 : Int32) = (0 : Int32)) => ?_) (fun (c215 : ¬ (1 : Int32) = (0 : Int32)) => ?_)
                · exact absurd c215 (by decide)
                · refine W.s1 (mkF m 219 #[.val (.int xsz), .val (.int xa), .val (.int xb), .val (.int xc), .val (.int xd), .val (.int xn), .val (.int p1), .val (.int p2), .val (.int p3), .val (.int xq), .val (.ref b101), .val (.ref at1), .val (.int p2), .val (.int (-1 : Int32)), .val (.int (2 : Int32)), .val (.int (1 : Int32)), .val (.ref at2), .val (.int (1 : Int32)), .val (.int (1 : Int32))] [(.int (1 : Int32))]) (fun _ kx_ => XS.iconst X185.here hx rfl (hb hby at_218) kx_) ?_
                  refine W.s1 (mkF m 223 #[.val (.int xsz), .val (.int xa), .val (.int xb), .val (.int xc), .val (.int xd), .val (.int xn), .val (.int p1), .val (.int p2), .val (.int p3), .val (.int xq), .val (.ref b101), .val (.ref at1), .val (.int p2), .val (.int (-1 : Int32)), .val (.int (2 : Int32)), .val (.int (1 : Int32)), .val (.ref at2), .val (.int (1 : Int32)), .val (.int (1 : Int32))] [(.int (1 : Int32))]) (fun _ kx_ => XS.goto X185.here hx rfl (pc0 := 219) (pc' := 223) rfl (hb hby at_219) (by decide) (by decide) kx_) ?_
                  exact W.retZ X185 hx hlk (t := .boolean) (z' := (1 : Int32)) Bd.returns (by simp) (hb hby at_223) rfl (by show Q0 Z xsz xa xb xc xd h0 n0 _ T185.heap _; rw [eq185]; exact ⟨rfl, N185⟩) (by decide) (by decide)
          · have H176 := hz176.2
            have hm176_0 : ¬ p1 = xq := fun q => hz176.1 (by rw [q]; simp)
            refine W.s1 (mkF m 175 #[.val (.int xsz), .val (.int xa), .val (.int xb), .val (.int xc), .val (.int xd), .val (.int xn), .val (.int p1), .val (.int p2), .val (.int p3), .val (.int xq), .val (.ref b101), .val (.ref at1), .val (.int p2), .val (.int (-1 : Int32)), .val (.int (2 : Int32)), .val (.int (1 : Int32)), .unset, .unset, .unset] [(.ref b101)]) (fun _ kx_ => XS.aload X176.here hx rfl (hb hby at_173) rfl rfl kx_) ?_
            have Zo_175 := Z176
            have hge_at2 : ap < h176.size ∧ an < h176.size := by obtain ⟨_, _, _, _, _, _, _, q1, q2, _⟩ := H176; exact ⟨q1.lt, q2.lt⟩
            obtain ⟨cq186, kq186, q186a, q186b, q186c⟩ := isOf hZ e176 f177
            obtain ⟨_, _, ⟨T186, L186, k186, n186⟩, -, X186, ⟨Lc186, hQ186, l186, y186, z186⟩, st186⟩ := X176.virtualBack hx (y := (⟨"com/example/tempora/tempora/NotedPoints", "take", "()[I"⟩ : MethodName)) (z := (⟨"com/example/tempora/tempora/NotedPoints", "take", "()[I"⟩ : MethodName)) hown (mvT hZ (hw _ (List.mem_of_getElem? (i := 23) rfl))) (mvT hZ (hw _ (List.mem_of_getElem? (i := 24) rfl))) (notFace_of_selects (args := #[]) (mvT hZ (hw _ (List.mem_of_getElem? (i := 26) rfl)))) (mvT hZ (hw _ (List.mem_of_getElem? (i := 26) rfl))) (mvT hZ (hw _ (List.mem_of_getElem? (i := 25) rfl))) (by decide) (backOf (W := 0) (rm4 l Z a0 hw [] b101 ap an n xn [xq, p1] h176 n0 Z176 hn hn8 (by show 2 ≤ n; have := own_ne hm176_0; skip; omega) H176 hp4 hp5 hp3 ge101 ge_ap ge_an) hZ (hw _ (List.mem_of_getElem? (i := 27) rfl)) (hw _ (List.mem_of_getElem? (i := 3) rfl)) (by decide) (by decide)) q186a q186c (g := (mkF m 175 #[.val (.int xsz), .val (.int xa), .val (.int xb), .val (.int xc), .val (.int xd), .val (.int xn), .val (.int p1), .val (.int p2), .val (.int p3), .val (.int xq), .val (.ref b101), .val (.ref at1), .val (.int p2), .val (.int (-1 : Int32)), .val (.int (2 : Int32)), .val (.int (1 : Int32)), .unset, .unset, .unset] [(.ref b101)])) rfl (by rw [hml]; rfl) (Steps.refl _) (argsL := []) (rest := []) (lenOf pd_4 rfl) rfl (by show 2 * 0 + _ ≤ _; exact Nat.le_of_eq rfl) (hb hby at_175) (fun _ _ => ⟨rfl, e176, (by decide : 4 + 1 ≤ _), (by decide : 27 + 8 ≤ _)⟩)
            dsimp only [Pt.U, Pt.locs, Pt.cells, Pt.slots] at X186 l186 y186 z186 st186 hQ186
            subst l186 y186 z186
            obtain ⟨h186, e186⟩ : ∃ z, T186.heap = z := ⟨_, rfl⟩
            rw [e186] at hQ186
            obtain ⟨at2, rfl, Nq186, Kq186, hgtat2, hltat2, A186, H186⟩ := hQ186
            have N186 := Fr.app N176 Nq186
            have Z186 : n0 ≤ h186.size := Nat.le_trans Z176 Kq186.1
            have f187 := f177.keep Kq186
            have f188 := f178.keep Kq186 (ninS (Ne.symm ne170) (ninS (Ne.symm ne_ap_at1) (ninS (Ne.symm ne_an_at1) nin0)))
            have ne189 : b101 ≠ at2 := Nat.ne_of_lt (Nat.lt_of_lt_of_le f177.lt hgtat2)
            have ne190 : at1 ≠ at2 := Nat.ne_of_lt (Nat.lt_of_lt_of_le f178.lt hgtat2)
            have ge191 : n0 ≤ at2 := Nat.le_trans Zo_175 hgtat2
            have ne_ap_at2 : ap ≠ at2 := Nat.ne_of_lt (Nat.lt_of_lt_of_le hge_at2.1 hgtat2)
            have ne_an_at2 : an ≠ at2 := Nat.ne_of_lt (Nat.lt_of_lt_of_le hge_at2.2 hgtat2)
            refine W.s3 (mkF m 178 #[.val (.int xsz), .val (.int xa), .val (.int xb), .val (.int xc), .val (.int xd), .val (.int xn), .val (.int p1), .val (.int p2), .val (.int p3), .val (.int xq), .val (.ref b101), .val (.ref at1), .val (.int p2), .val (.int (-1 : Int32)), .val (.int (2 : Int32)), .val (.int (1 : Int32)), .unset, .unset, .unset] [(.ref at2)]) st186 ?_
            refine W.s1 (mkF m 180 #[.val (.int xsz), .val (.int xa), .val (.int xb), .val (.int xc), .val (.int xd), .val (.int xn), .val (.int p1), .val (.int p2), .val (.int p3), .val (.int xq), .val (.ref b101), .val (.ref at1), .val (.int p2), .val (.int (-1 : Int32)), .val (.int (2 : Int32)), .val (.int (1 : Int32)), .val (.ref at2), .unset, .unset] []) (fun _ kx_ => XS.astore X186.here hx rfl (hb hby at_178) rfl rfl (l' := #[.val (.int xsz), .val (.int xa), .val (.int xb), .val (.int xc), .val (.int xd), .val (.int xn), .val (.int p1), .val (.int p2), .val (.int p3), .val (.int xq), .val (.ref b101), .val (.ref at1), .val (.int p2), .val (.int (-1 : Int32)), .val (.int (2 : Int32)), .val (.int (1 : Int32)), .val (.ref at2), .unset, .unset]) rfl kx_) ?_
            refine W.s1 (mkF m 182 #[.val (.int xsz), .val (.int xa), .val (.int xb), .val (.int xc), .val (.int xd), .val (.int xn), .val (.int p1), .val (.int p2), .val (.int p3), .val (.int xq), .val (.ref b101), .val (.ref at1), .val (.int p2), .val (.int (-1 : Int32)), .val (.int (2 : Int32)), .val (.int (1 : Int32)), .val (.ref at2), .unset, .unset] [(.int xq)]) (fun _ kx_ => XS.iload X186.here hx rfl (hb hby at_180) rfl kx_) ?_
            refine W.s1 (mkF m 184 #[.val (.int xsz), .val (.int xa), .val (.int xb), .val (.int xc), .val (.int xd), .val (.int xn), .val (.int p1), .val (.int p2), .val (.int p3), .val (.int xq), .val (.ref b101), .val (.ref at1), .val (.int p2), .val (.int (-1 : Int32)), .val (.int (2 : Int32)), .val (.int (1 : Int32)), .val (.ref at2), .unset, .unset] [(.int p1), (.int xq)]) (fun _ kx_ => XS.iload X186.here hx rfl (hb hby at_182) rfl kx_) ?_
            refine W.icmp X186 hx (hb hby at_184) (pc' := 191) (pc'' := 187) (by decide) (by decide) rfl (fun (c184 : ¬ xq = p1) => ?_) (fun (c184 : xq = p1) => ?_)
            · refine W.s1 (mkF m 192 #[.val (.int xsz), .val (.int xa), .val (.int xb), .val (.int xc), .val (.int xd), .val (.int xn), .val (.int p1), .val (.int p2), .val (.int p3), .val (.int xq), .val (.ref b101), .val (.ref at1), .val (.int p2), .val (.int (-1 : Int32)), .val (.int (2 : Int32)), .val (.int (1 : Int32)), .val (.ref at2), .unset, .unset] [(.int (2 : Int32))]) (fun _ kx_ => XS.iconst X186.here hx rfl (hb hby at_191) kx_) ?_
              refine W.s1 (mkF m 194 #[.val (.int xsz), .val (.int xa), .val (.int xb), .val (.int xc), .val (.int xd), .val (.int xn), .val (.int p1), .val (.int p2), .val (.int p3), .val (.int xq), .val (.ref b101), .val (.ref at1), .val (.int p2), .val (.int (-1 : Int32)), .val (.int (2 : Int32)), .val (.int (1 : Int32)), .val (.ref at2), .val (.int (2 : Int32)), .unset] []) (fun _ kx_ => XS.istore X186.here hx rfl (hb hby at_192) rfl (l' := #[.val (.int xsz), .val (.int xa), .val (.int xb), .val (.int xc), .val (.int xd), .val (.int xn), .val (.int p1), .val (.int p2), .val (.int p3), .val (.int xq), .val (.ref b101), .val (.ref at1), .val (.int p2), .val (.int (-1 : Int32)), .val (.int (2 : Int32)), .val (.int (1 : Int32)), .val (.ref at2), .val (.int (2 : Int32)), .unset]) rfl kx_) ?_
              refine W.s1 (mkF m 196 #[.val (.int xsz), .val (.int xa), .val (.int xb), .val (.int xc), .val (.int xd), .val (.int xn), .val (.int p1), .val (.int p2), .val (.int p3), .val (.int xq), .val (.ref b101), .val (.ref at1), .val (.int p2), .val (.int (-1 : Int32)), .val (.int (2 : Int32)), .val (.int (1 : Int32)), .val (.ref at2), .val (.int (2 : Int32)), .unset] [(.ref at2)]) (fun _ kx_ => XS.aload X186.here hx rfl (hb hby at_194) rfl rfl kx_) ?_
              refine W.s1 (mkF m 198 #[.val (.int xsz), .val (.int xa), .val (.int xb), .val (.int xc), .val (.int xd), .val (.int xn), .val (.int p1), .val (.int p2), .val (.int p3), .val (.int xq), .val (.ref b101), .val (.ref at1), .val (.int p2), .val (.int (-1 : Int32)), .val (.int (2 : Int32)), .val (.int (1 : Int32)), .val (.ref at2), .val (.int (2 : Int32)), .unset] [(.int (2 : Int32)), (.ref at2)]) (fun _ kx_ => XS.iload X186.here hx rfl (hb hby at_196) rfl kx_) ?_
              refine W.s1 (mkF m 200 #[.val (.int xsz), .val (.int xa), .val (.int xb), .val (.int xc), .val (.int xd), .val (.int xn), .val (.int p1), .val (.int p2), .val (.int p3), .val (.int xq), .val (.ref b101), .val (.ref at1), .val (.int p2), .val (.int (-1 : Int32)), .val (.int (2 : Int32)), .val (.int (1 : Int32)), .val (.ref at2), .val (.int (2 : Int32)), .unset] [(.int xq), (.int (2 : Int32)), (.ref at2)]) (fun _ kx_ => XS.iload X186.here hx rfl (hb hby at_198) rfl kx_) ?_
              refine W.s1 (mkF m 202 #[.val (.int xsz), .val (.int xa), .val (.int xb), .val (.int xc), .val (.int xd), .val (.int xn), .val (.int p1), .val (.int p2), .val (.int p3), .val (.int xq), .val (.ref b101), .val (.ref at1), .val (.int p2), .val (.int (-1 : Int32)), .val (.int (2 : Int32)), .val (.int (1 : Int32)), .val (.ref at2), .val (.int (2 : Int32)), .unset] [(.int p1), (.int xq), (.int (2 : Int32)), (.ref at2)]) (fun _ kx_ => XS.iload X186.here hx rfl (hb hby at_200) rfl kx_) ?_
              refine W.s1 (mkF m 203 #[.val (.int xsz), .val (.int xa), .val (.int xb), .val (.int xc), .val (.int xd), .val (.int xn), .val (.int p1), .val (.int p2), .val (.int p3), .val (.int xq), .val (.ref b101), .val (.ref at1), .val (.int p2), .val (.int (-1 : Int32)), .val (.int (2 : Int32)), .val (.int (1 : Int32)), .val (.ref at2), .val (.int (2 : Int32)), .unset] [(.int (-1 : Int32)), (.int p1), (.int xq), (.int (2 : Int32)), (.ref at2)]) (fun _ kx_ => XS.iconst X186.here hx rfl (hb hby at_202) kx_) ?_
              obtain ⟨_, _, ⟨T192, L192, k192, n192⟩, -, X192, ⟨Lc192, hQ192, l192, y192, z192⟩, st192⟩ := Jvm.LawKit.callS X186 hx (y := (⟨"com/example/tempora/tempora/NotedPointsNotePinLaw", "same", "([IIIII)Z"⟩ : MethodName)) hown (mvT hZ (hw _ (List.mem_of_getElem? (i := 46) rfl))) (mvT hZ (hw _ (List.mem_of_getElem? (i := 47) rfl))) (mvT hZ (hw _ (List.mem_of_getElem? (i := 48) rfl))) (mvT hZ (hw _ (List.mem_of_getElem? (i := 49) rfl))) (by decide) (backOf (W := 0) (rm7 l Z a0 hw [] at2 (2 : Int32) xq p1 (-1 : Int32) 2 (fun i => [xq, p1].getD i 0) h186 n0 Z186 A186 rfl (fun _ => rfl) (fun _ => rfl) (fun q => absurd q (by decide))) hZ (hw _ (List.mem_of_getElem? (i := 49) rfl)) (hw _ (List.mem_of_getElem? (i := 48) rfl)) (by decide) (by decide)) (g := (mkF m 203 #[.val (.int xsz), .val (.int xa), .val (.int xb), .val (.int xc), .val (.int xd), .val (.int xn), .val (.int p1), .val (.int p2), .val (.int p3), .val (.int xq), .val (.ref b101), .val (.ref at1), .val (.int p2), .val (.int (-1 : Int32)), .val (.int (2 : Int32)), .val (.int (1 : Int32)), .val (.ref at2), .val (.int (2 : Int32)), .unset] [(.int (-1 : Int32)), (.int p1), (.int xq), (.int (2 : Int32)), (.ref at2)])) rfl (by rw [hml]; rfl) (argsL := [(.ref at2), (.int (2 : Int32)), (.int xq), (.int p1), (.int (-1 : Int32))]) (rest := []) (lenOf pd_5 rfl) rfl (by show 2 * 0 + _ ≤ _; exact Nat.le_of_eq rfl) (hb hby at_203) (fun _ _ => ⟨rfl, e186, (by decide : 5 + 0 ≤ _), (by decide : 35 + 0 ≤ _)⟩)
              dsimp only [Pt.U, Pt.locs, Pt.cells, Pt.slots] at X192 l192 y192 z192 st192 hQ192
              subst l192 y192 z192
              obtain ⟨rfl, Nq192, eq192⟩ := hQ192
              have N192 := Fr.app N186 Nq192
              refine W.s2 (mkF m 206 #[.val (.int xsz), .val (.int xa), .val (.int xb), .val (.int xc), .val (.int xd), .val (.int xn), .val (.int p1), .val (.int p2), .val (.int p3), .val (.int xq), .val (.ref b101), .val (.ref at1), .val (.int p2), .val (.int (-1 : Int32)), .val (.int (2 : Int32)), .val (.int (1 : Int32)), .val (.ref at2), .val (.int (2 : Int32)), .unset] [(.int (1 : Int32))]) st192 ?_
              refine W.s1 (mkF m 208 #[.val (.int xsz), .val (.int xa), .val (.int xb), .val (.int xc), .val (.int xd), .val (.int xn), .val (.int p1), .val (.int p2), .val (.int p3), .val (.int xq), .val (.ref b101), .val (.ref at1), .val (.int p2), .val (.int (-1 : Int32)), .val (.int (2 : Int32)), .val (.int (1 : Int32)), .val (.ref at2), .val (.int (2 : Int32)), .val (.int (1 : Int32))] []) (fun _ kx_ => XS.istore X192.here hx rfl (hb hby at_206) rfl (l' := #[.val (.int xsz), .val (.int xa), .val (.int xb), .val (.int xc), .val (.int xd), .val (.int xn), .val (.int p1), .val (.int p2), .val (.int p3), .val (.int xq), .val (.ref b101), .val (.ref at1), .val (.int p2), .val (.int (-1 : Int32)), .val (.int (2 : Int32)), .val (.int (1 : Int32)), .val (.ref at2), .val (.int (2 : Int32)), .val (.int (1 : Int32))]) rfl kx_) ?_
              refine W.s1 (mkF m 210 #[.val (.int xsz), .val (.int xa), .val (.int xb), .val (.int xc), .val (.int xd), .val (.int xn), .val (.int p1), .val (.int p2), .val (.int p3), .val (.int xq), .val (.ref b101), .val (.ref at1), .val (.int p2), .val (.int (-1 : Int32)), .val (.int (2 : Int32)), .val (.int (1 : Int32)), .val (.ref at2), .val (.int (2 : Int32)), .val (.int (1 : Int32))] [(.int (1 : Int32))]) (fun _ kx_ => XS.iload X192.here hx rfl (hb hby at_208) rfl kx_) ?_
              refine W.ifc X192 hx (hb hby at_210) (pc' := 222) (pc'' := 213) (by decide) (by decide) rfl (fun (c210 : (1 : Int32) = (0 : Int32)) => ?_) (fun (c210 : ¬ (1 : Int32) = (0 : Int32)) => ?_)
              · exact absurd c210 (by decide)
              · refine W.s1 (mkF m 215 #[.val (.int xsz), .val (.int xa), .val (.int xb), .val (.int xc), .val (.int xd), .val (.int xn), .val (.int p1), .val (.int p2), .val (.int p3), .val (.int xq), .val (.ref b101), .val (.ref at1), .val (.int p2), .val (.int (-1 : Int32)), .val (.int (2 : Int32)), .val (.int (1 : Int32)), .val (.ref at2), .val (.int (2 : Int32)), .val (.int (1 : Int32))] [(.int (1 : Int32))]) (fun _ kx_ => XS.iload X192.here hx rfl (hb hby at_213) rfl kx_) ?_
                refine W.ifc X192 hx (hb hby at_215) (pc' := 222) (pc'' := 218) (by decide) (by decide) rfl (fun (c215 : (1 : Int32) = (0 : Int32)) => ?_) (fun (c215 : ¬ (1 : Int32) = (0 : Int32)) => ?_)
                · exact absurd c215 (by decide)
                · refine W.s1 (mkF m 219 #[.val (.int xsz), .val (.int xa), .val (.int xb), .val (.int xc), .val (.int xd), .val (.int xn), .val (.int p1), .val (.int p2), .val (.int p3), .val (.int xq), .val (.ref b101), .val (.ref at1), .val (.int p2), .val (.int (-1 : Int32)), .val (.int (2 : Int32)), .val (.int (1 : Int32)), .val (.ref at2), .val (.int (2 : Int32)), .val (.int (1 : Int32))] [(.int (1 : Int32))]) (fun _ kx_ => XS.iconst X192.here hx rfl (hb hby at_218) kx_) ?_
                  refine W.s1 (mkF m 223 #[.val (.int xsz), .val (.int xa), .val (.int xb), .val (.int xc), .val (.int xd), .val (.int xn), .val (.int p1), .val (.int p2), .val (.int p3), .val (.int xq), .val (.ref b101), .val (.ref at1), .val (.int p2), .val (.int (-1 : Int32)), .val (.int (2 : Int32)), .val (.int (1 : Int32)), .val (.ref at2), .val (.int (2 : Int32)), .val (.int (1 : Int32))] [(.int (1 : Int32))]) (fun _ kx_ => XS.goto X192.here hx rfl (pc0 := 219) (pc' := 223) rfl (hb hby at_219) (by decide) (by decide) kx_) ?_
                  exact W.retZ X192 hx hlk (t := .boolean) (z' := (1 : Int32)) Bd.returns (by simp) (hb hby at_223) rfl (by show Q0 Z xsz xa xb xc xd h0 n0 _ T192.heap _; rw [eq192]; exact ⟨rfl, N192⟩) (by decide) (by decide)
            · exact absurd c184 (fun q => hm176_0 q.symm)
        · exact absurd hm166 c111
    · have H166 := hw166.2.2
      have hm166 := hw166.1
      have hn166 := hw166.2.1
      refine W.s1 (mkF m 79 #[.val (.int xsz), .val (.int xa), .val (.int xb), .val (.int xc), .val (.int xd), .val (.int xn), .val (.int p1), .val (.int p2), .val (.int p3), .val (.int xq), .val (.ref b101), .unset, .unset, .unset, .unset, .unset, .unset, .unset, .unset] [(.ref b101)]) (fun _ kx_ => XS.aload X166.here hx rfl (hb hby at_77) rfl rfl kx_) ?_
      have Zo_79 := Z166
      have hge_at1 : ap < h166.size ∧ an < h166.size := by obtain ⟨_, _, _, _, _, _, _, q1, q2, _⟩ := H166; exact ⟨q1.lt, q2.lt⟩
      obtain ⟨cq193, kq193, q193a, q193b, q193c⟩ := isOf hZ e166 f167
      obtain ⟨_, _, ⟨T193, L193, k193, n193⟩, -, X193, ⟨Lc193, hQ193, l193, y193, z193⟩, st193⟩ := X166.virtualBack hx (y := (⟨"com/example/tempora/tempora/NotedPoints", "take", "()[I"⟩ : MethodName)) (z := (⟨"com/example/tempora/tempora/NotedPoints", "take", "()[I"⟩ : MethodName)) hown (mvT hZ (hw _ (List.mem_of_getElem? (i := 23) rfl))) (mvT hZ (hw _ (List.mem_of_getElem? (i := 24) rfl))) (notFace_of_selects (args := #[]) (mvT hZ (hw _ (List.mem_of_getElem? (i := 26) rfl)))) (mvT hZ (hw _ (List.mem_of_getElem? (i := 26) rfl))) (mvT hZ (hw _ (List.mem_of_getElem? (i := 25) rfl))) (by decide) (backOf (W := 0) (rm4 l Z a0 hw [] b101 ap an n xn [p1, p2] h166 n0 Z166 hn hn8 (by show 2 ≤ n; have := own_ne hm112_0; skip; omega) H166 hp4 hp5 hp3 ge101 ge_ap ge_an) hZ (hw _ (List.mem_of_getElem? (i := 27) rfl)) (hw _ (List.mem_of_getElem? (i := 3) rfl)) (by decide) (by decide)) q193a q193c (g := (mkF m 79 #[.val (.int xsz), .val (.int xa), .val (.int xb), .val (.int xc), .val (.int xd), .val (.int xn), .val (.int p1), .val (.int p2), .val (.int p3), .val (.int xq), .val (.ref b101), .unset, .unset, .unset, .unset, .unset, .unset, .unset, .unset] [(.ref b101)])) rfl (by rw [hml]; rfl) (Steps.refl _) (argsL := []) (rest := []) (lenOf pd_4 rfl) rfl (by show 2 * 0 + _ ≤ _; exact Nat.le_of_eq rfl) (hb hby at_79) (fun _ _ => ⟨rfl, e166, (by decide : 3 + 1 ≤ _), (by decide : 19 + 8 ≤ _)⟩)
      dsimp only [Pt.U, Pt.locs, Pt.cells, Pt.slots] at X193 l193 y193 z193 st193 hQ193
      subst l193 y193 z193
      obtain ⟨h193, e193⟩ : ∃ z, T193.heap = z := ⟨_, rfl⟩
      rw [e193] at hQ193
      obtain ⟨at1, rfl, Nq193, Kq193, hgtat1, hltat1, A193, H193⟩ := hQ193
      have N193 := Fr.app N166 Nq193
      have Z193 : n0 ≤ h193.size := Nat.le_trans Z166 Kq193.1
      have f194 := f167.keep Kq193
      have ne195 : b101 ≠ at1 := Nat.ne_of_lt (Nat.lt_of_lt_of_le f167.lt hgtat1)
      have ge196 : n0 ≤ at1 := Nat.le_trans Zo_79 hgtat1
      have ne_ap_at1 : ap ≠ at1 := Nat.ne_of_lt (Nat.lt_of_lt_of_le hge_at1.1 hgtat1)
      have ne_an_at1 : an ≠ at1 := Nat.ne_of_lt (Nat.lt_of_lt_of_le hge_at1.2 hgtat1)
      refine W.s3 (mkF m 82 #[.val (.int xsz), .val (.int xa), .val (.int xb), .val (.int xc), .val (.int xd), .val (.int xn), .val (.int p1), .val (.int p2), .val (.int p3), .val (.int xq), .val (.ref b101), .unset, .unset, .unset, .unset, .unset, .unset, .unset, .unset] [(.ref at1)]) st193 ?_
      refine W.s1 (mkF m 84 #[.val (.int xsz), .val (.int xa), .val (.int xb), .val (.int xc), .val (.int xd), .val (.int xn), .val (.int p1), .val (.int p2), .val (.int p3), .val (.int xq), .val (.ref b101), .val (.ref at1), .unset, .unset, .unset, .unset, .unset, .unset, .unset] []) (fun _ kx_ => XS.astore X193.here hx rfl (hb hby at_82) rfl rfl (l' := #[.val (.int xsz), .val (.int xa), .val (.int xb), .val (.int xc), .val (.int xd), .val (.int xn), .val (.int p1), .val (.int p2), .val (.int p3), .val (.int xq), .val (.ref b101), .val (.ref at1), .unset, .unset, .unset, .unset, .unset, .unset, .unset]) rfl kx_) ?_
      refine W.s1 (mkF m 85 #[.val (.int xsz), .val (.int xa), .val (.int xb), .val (.int xc), .val (.int xd), .val (.int xn), .val (.int p1), .val (.int p2), .val (.int p3), .val (.int xq), .val (.ref b101), .val (.ref at1), .unset, .unset, .unset, .unset, .unset, .unset, .unset] [(.int (-1 : Int32))]) (fun _ kx_ => XS.iconst X193.here hx rfl (hb hby at_84) kx_) ?_
      refine W.s1 (mkF m 87 #[.val (.int xsz), .val (.int xa), .val (.int xb), .val (.int xc), .val (.int xd), .val (.int xn), .val (.int p1), .val (.int p2), .val (.int p3), .val (.int xq), .val (.ref b101), .val (.ref at1), .val (.int (-1 : Int32)), .unset, .unset, .unset, .unset, .unset, .unset] []) (fun _ kx_ => XS.istore X193.here hx rfl (hb hby at_85) rfl (l' := #[.val (.int xsz), .val (.int xa), .val (.int xb), .val (.int xc), .val (.int xd), .val (.int xn), .val (.int p1), .val (.int p2), .val (.int p3), .val (.int xq), .val (.ref b101), .val (.ref at1), .val (.int (-1 : Int32)), .unset, .unset, .unset, .unset, .unset, .unset]) rfl kx_) ?_
      refine W.s1 (mkF m 88 #[.val (.int xsz), .val (.int xa), .val (.int xb), .val (.int xc), .val (.int xd), .val (.int xn), .val (.int p1), .val (.int p2), .val (.int p3), .val (.int xq), .val (.ref b101), .val (.ref at1), .val (.int (-1 : Int32)), .unset, .unset, .unset, .unset, .unset, .unset] [(.int (-1 : Int32))]) (fun _ kx_ => XS.iconst X193.here hx rfl (hb hby at_87) kx_) ?_
      refine W.s1 (mkF m 90 #[.val (.int xsz), .val (.int xa), .val (.int xb), .val (.int xc), .val (.int xd), .val (.int xn), .val (.int p1), .val (.int p2), .val (.int p3), .val (.int xq), .val (.ref b101), .val (.ref at1), .val (.int (-1 : Int32)), .val (.int (-1 : Int32)), .unset, .unset, .unset, .unset, .unset] []) (fun _ kx_ => XS.istore X193.here hx rfl (hb hby at_88) rfl (l' := #[.val (.int xsz), .val (.int xa), .val (.int xb), .val (.int xc), .val (.int xd), .val (.int xn), .val (.int p1), .val (.int p2), .val (.int p3), .val (.int xq), .val (.ref b101), .val (.ref at1), .val (.int (-1 : Int32)), .val (.int (-1 : Int32)), .unset, .unset, .unset, .unset, .unset]) rfl kx_) ?_
      refine W.s1 (mkF m 91 #[.val (.int xsz), .val (.int xa), .val (.int xb), .val (.int xc), .val (.int xd), .val (.int xn), .val (.int p1), .val (.int p2), .val (.int p3), .val (.int xq), .val (.ref b101), .val (.ref at1), .val (.int (-1 : Int32)), .val (.int (-1 : Int32)), .unset, .unset, .unset, .unset, .unset] [(.int (1 : Int32))]) (fun _ kx_ => XS.iconst X193.here hx rfl (hb hby at_90) kx_) ?_
      refine W.s1 (mkF m 93 #[.val (.int xsz), .val (.int xa), .val (.int xb), .val (.int xc), .val (.int xd), .val (.int xn), .val (.int p1), .val (.int p2), .val (.int p3), .val (.int xq), .val (.ref b101), .val (.ref at1), .val (.int (-1 : Int32)), .val (.int (-1 : Int32)), .val (.int (1 : Int32)), .unset, .unset, .unset, .unset] []) (fun _ kx_ => XS.istore X193.here hx rfl (hb hby at_91) rfl (l' := #[.val (.int xsz), .val (.int xa), .val (.int xb), .val (.int xc), .val (.int xd), .val (.int xn), .val (.int p1), .val (.int p2), .val (.int p3), .val (.int xq), .val (.ref b101), .val (.ref at1), .val (.int (-1 : Int32)), .val (.int (-1 : Int32)), .val (.int (1 : Int32)), .unset, .unset, .unset, .unset]) rfl kx_) ?_
      refine W.s1 (mkF m 95 #[.val (.int xsz), .val (.int xa), .val (.int xb), .val (.int xc), .val (.int xd), .val (.int xn), .val (.int p1), .val (.int p2), .val (.int p3), .val (.int xq), .val (.ref b101), .val (.ref at1), .val (.int (-1 : Int32)), .val (.int (-1 : Int32)), .val (.int (1 : Int32)), .unset, .unset, .unset, .unset] [(.int p2)]) (fun _ kx_ => XS.iload X193.here hx rfl (hb hby at_93) rfl kx_) ?_
      refine W.s1 (mkF m 97 #[.val (.int xsz), .val (.int xa), .val (.int xb), .val (.int xc), .val (.int xd), .val (.int xn), .val (.int p1), .val (.int p2), .val (.int p3), .val (.int xq), .val (.ref b101), .val (.ref at1), .val (.int (-1 : Int32)), .val (.int (-1 : Int32)), .val (.int (1 : Int32)), .unset, .unset, .unset, .unset] [(.int p1), (.int p2)]) (fun _ kx_ => XS.iload X193.here hx rfl (hb hby at_95) rfl kx_) ?_
      refine W.icmp X193 hx (hb hby at_97) (pc' := 107) (pc'' := 100) (by decide) (by decide) rfl (fun (c97 : p2 = p1) => ?_) (fun (c97 : ¬ p2 = p1) => ?_)
      · exact absurd c97 hm112_0
      · refine W.s1 (mkF m 102 #[.val (.int xsz), .val (.int xa), .val (.int xb), .val (.int xc), .val (.int xd), .val (.int xn), .val (.int p1), .val (.int p2), .val (.int p3), .val (.int xq), .val (.ref b101), .val (.ref at1), .val (.int (-1 : Int32)), .val (.int (-1 : Int32)), .val (.int (1 : Int32)), .unset, .unset, .unset, .unset] [(.int p2)]) (fun _ kx_ => XS.iload X193.here hx rfl (hb hby at_100) rfl kx_) ?_
        refine W.s1 (mkF m 104 #[.val (.int xsz), .val (.int xa), .val (.int xb), .val (.int xc), .val (.int xd), .val (.int xn), .val (.int p1), .val (.int p2), .val (.int p3), .val (.int xq), .val (.ref b101), .val (.ref at1), .val (.int p2), .val (.int (-1 : Int32)), .val (.int (1 : Int32)), .unset, .unset, .unset, .unset] []) (fun _ kx_ => XS.istore X193.here hx rfl (hb hby at_102) rfl (l' := #[.val (.int xsz), .val (.int xa), .val (.int xb), .val (.int xc), .val (.int xd), .val (.int xn), .val (.int p1), .val (.int p2), .val (.int p3), .val (.int xq), .val (.ref b101), .val (.ref at1), .val (.int p2), .val (.int (-1 : Int32)), .val (.int (1 : Int32)), .unset, .unset, .unset, .unset]) rfl kx_) ?_
        refine W.s1 (mkF m 105 #[.val (.int xsz), .val (.int xa), .val (.int xb), .val (.int xc), .val (.int xd), .val (.int xn), .val (.int p1), .val (.int p2), .val (.int p3), .val (.int xq), .val (.ref b101), .val (.ref at1), .val (.int p2), .val (.int (-1 : Int32)), .val (.int (1 : Int32)), .unset, .unset, .unset, .unset] [(.int (2 : Int32))]) (fun _ kx_ => XS.iconst X193.here hx rfl (hb hby at_104) kx_) ?_
        refine W.s1 (mkF m 107 #[.val (.int xsz), .val (.int xa), .val (.int xb), .val (.int xc), .val (.int xd), .val (.int xn), .val (.int p1), .val (.int p2), .val (.int p3), .val (.int xq), .val (.ref b101), .val (.ref at1), .val (.int p2), .val (.int (-1 : Int32)), .val (.int (2 : Int32)), .unset, .unset, .unset, .unset] []) (fun _ kx_ => XS.istore X193.here hx rfl (hb hby at_105) rfl (l' := #[.val (.int xsz), .val (.int xa), .val (.int xb), .val (.int xc), .val (.int xd), .val (.int xn), .val (.int p1), .val (.int p2), .val (.int p3), .val (.int xq), .val (.ref b101), .val (.ref at1), .val (.int p2), .val (.int (-1 : Int32)), .val (.int (2 : Int32)), .unset, .unset, .unset, .unset]) rfl kx_) ?_
        refine W.s1 (mkF m 109 #[.val (.int xsz), .val (.int xa), .val (.int xb), .val (.int xc), .val (.int xd), .val (.int xn), .val (.int p1), .val (.int p2), .val (.int p3), .val (.int xq), .val (.ref b101), .val (.ref at1), .val (.int p2), .val (.int (-1 : Int32)), .val (.int (2 : Int32)), .unset, .unset, .unset, .unset] [(.int p3)]) (fun _ kx_ => XS.iload X193.here hx rfl (hb hby at_107) rfl kx_) ?_
        refine W.s1 (mkF m 111 #[.val (.int xsz), .val (.int xa), .val (.int xb), .val (.int xc), .val (.int xd), .val (.int xn), .val (.int p1), .val (.int p2), .val (.int p3), .val (.int xq), .val (.ref b101), .val (.ref at1), .val (.int p2), .val (.int (-1 : Int32)), .val (.int (2 : Int32)), .unset, .unset, .unset, .unset] [(.int p1), (.int p3)]) (fun _ kx_ => XS.iload X193.here hx rfl (hb hby at_109) rfl kx_) ?_
        refine W.icmp X193 hx (hb hby at_111) (pc' := 144) (pc'' := 114) (by decide) (by decide) rfl (fun (c111 : p3 = p1) => ?_) (fun (c111 : ¬ p3 = p1) => ?_)
        · exact absurd c111 hn166
        · refine W.s1 (mkF m 116 #[.val (.int xsz), .val (.int xa), .val (.int xb), .val (.int xc), .val (.int xd), .val (.int xn), .val (.int p1), .val (.int p2), .val (.int p3), .val (.int xq), .val (.ref b101), .val (.ref at1), .val (.int p2), .val (.int (-1 : Int32)), .val (.int (2 : Int32)), .unset, .unset, .unset, .unset] [(.int p3)]) (fun _ kx_ => XS.iload X193.here hx rfl (hb hby at_114) rfl kx_) ?_
          refine W.s1 (mkF m 118 #[.val (.int xsz), .val (.int xa), .val (.int xb), .val (.int xc), .val (.int xd), .val (.int xn), .val (.int p1), .val (.int p2), .val (.int p3), .val (.int xq), .val (.ref b101), .val (.ref at1), .val (.int p2), .val (.int (-1 : Int32)), .val (.int (2 : Int32)), .unset, .unset, .unset, .unset] [(.int p2), (.int p3)]) (fun _ kx_ => XS.iload X193.here hx rfl (hb hby at_116) rfl kx_) ?_
          refine W.icmp X193 hx (hb hby at_118) (pc' := 144) (pc'' := 121) (by decide) (by decide) rfl (fun (c118 : p3 = p2) => ?_) (fun (c118 : ¬ p3 = p2) => ?_)
          · refine W.s1 (mkF m 146 #[.val (.int xsz), .val (.int xa), .val (.int xb), .val (.int xc), .val (.int xd), .val (.int xn), .val (.int p1), .val (.int p2), .val (.int p3), .val (.int xq), .val (.ref b101), .val (.ref at1), .val (.int p2), .val (.int (-1 : Int32)), .val (.int (2 : Int32)), .unset, .unset, .unset, .unset] [(.ref at1)]) (fun _ kx_ => XS.aload X193.here hx rfl (hb hby at_144) rfl rfl kx_) ?_
            refine W.s1 (mkF m 148 #[.val (.int xsz), .val (.int xa), .val (.int xb), .val (.int xc), .val (.int xd), .val (.int xn), .val (.int p1), .val (.int p2), .val (.int p3), .val (.int xq), .val (.ref b101), .val (.ref at1), .val (.int p2), .val (.int (-1 : Int32)), .val (.int (2 : Int32)), .unset, .unset, .unset, .unset] [(.int (2 : Int32)), (.ref at1)]) (fun _ kx_ => XS.iload X193.here hx rfl (hb hby at_146) rfl kx_) ?_
            refine W.s1 (mkF m 150 #[.val (.int xsz), .val (.int xa), .val (.int xb), .val (.int xc), .val (.int xd), .val (.int xn), .val (.int p1), .val (.int p2), .val (.int p3), .val (.int xq), .val (.ref b101), .val (.ref at1), .val (.int p2), .val (.int (-1 : Int32)), .val (.int (2 : Int32)), .unset, .unset, .unset, .unset] [(.int p1), (.int (2 : Int32)), (.ref at1)]) (fun _ kx_ => XS.iload X193.here hx rfl (hb hby at_148) rfl kx_) ?_
            refine W.s1 (mkF m 152 #[.val (.int xsz), .val (.int xa), .val (.int xb), .val (.int xc), .val (.int xd), .val (.int xn), .val (.int p1), .val (.int p2), .val (.int p3), .val (.int xq), .val (.ref b101), .val (.ref at1), .val (.int p2), .val (.int (-1 : Int32)), .val (.int (2 : Int32)), .unset, .unset, .unset, .unset] [(.int p2), (.int p1), (.int (2 : Int32)), (.ref at1)]) (fun _ kx_ => XS.iload X193.here hx rfl (hb hby at_150) rfl kx_) ?_
            refine W.s1 (mkF m 154 #[.val (.int xsz), .val (.int xa), .val (.int xb), .val (.int xc), .val (.int xd), .val (.int xn), .val (.int p1), .val (.int p2), .val (.int p3), .val (.int xq), .val (.ref b101), .val (.ref at1), .val (.int p2), .val (.int (-1 : Int32)), .val (.int (2 : Int32)), .unset, .unset, .unset, .unset] [(.int (-1 : Int32)), (.int p2), (.int p1), (.int (2 : Int32)), (.ref at1)]) (fun _ kx_ => XS.iload X193.here hx rfl (hb hby at_152) rfl kx_) ?_
            obtain ⟨_, _, ⟨T197, L197, k197, n197⟩, -, X197, ⟨Lc197, hQ197, l197, y197, z197⟩, st197⟩ := Jvm.LawKit.callS X193 hx (y := (⟨"com/example/tempora/tempora/NotedPointsNotePinLaw", "same", "([IIIII)Z"⟩ : MethodName)) hown (mvT hZ (hw _ (List.mem_of_getElem? (i := 46) rfl))) (mvT hZ (hw _ (List.mem_of_getElem? (i := 47) rfl))) (mvT hZ (hw _ (List.mem_of_getElem? (i := 48) rfl))) (mvT hZ (hw _ (List.mem_of_getElem? (i := 49) rfl))) (by decide) (backOf (W := 0) (rm7 l Z a0 hw [] at1 (2 : Int32) p1 p2 (-1 : Int32) 2 (fun i => [p1, p2].getD i 0) h193 n0 Z193 A193 rfl (fun _ => rfl) (fun _ => rfl) (fun q => absurd q (by decide))) hZ (hw _ (List.mem_of_getElem? (i := 49) rfl)) (hw _ (List.mem_of_getElem? (i := 48) rfl)) (by decide) (by decide)) (g := (mkF m 154 #[.val (.int xsz), .val (.int xa), .val (.int xb), .val (.int xc), .val (.int xd), .val (.int xn), .val (.int p1), .val (.int p2), .val (.int p3), .val (.int xq), .val (.ref b101), .val (.ref at1), .val (.int p2), .val (.int (-1 : Int32)), .val (.int (2 : Int32)), .unset, .unset, .unset, .unset] [(.int (-1 : Int32)), (.int p2), (.int p1), (.int (2 : Int32)), (.ref at1)])) rfl (by rw [hml]; rfl) (argsL := [(.ref at1), (.int (2 : Int32)), (.int p1), (.int p2), (.int (-1 : Int32))]) (rest := []) (lenOf pd_5 rfl) rfl (by show 2 * 0 + _ ≤ _; exact Nat.le_of_eq rfl) (hb hby at_154) (fun _ _ => ⟨rfl, e193, (by decide : 4 + 0 ≤ _), (by decide : 27 + 0 ≤ _)⟩)
            dsimp only [Pt.U, Pt.locs, Pt.cells, Pt.slots] at X197 l197 y197 z197 st197 hQ197
            subst l197 y197 z197
            obtain ⟨rfl, Nq197, eq197⟩ := hQ197
            have N197 := Fr.app N193 Nq197
            refine W.s2 (mkF m 157 #[.val (.int xsz), .val (.int xa), .val (.int xb), .val (.int xc), .val (.int xd), .val (.int xn), .val (.int p1), .val (.int p2), .val (.int p3), .val (.int xq), .val (.ref b101), .val (.ref at1), .val (.int p2), .val (.int (-1 : Int32)), .val (.int (2 : Int32)), .unset, .unset, .unset, .unset] [(.int (1 : Int32))]) st197 ?_
            refine W.s1 (mkF m 159 #[.val (.int xsz), .val (.int xa), .val (.int xb), .val (.int xc), .val (.int xd), .val (.int xn), .val (.int p1), .val (.int p2), .val (.int p3), .val (.int xq), .val (.ref b101), .val (.ref at1), .val (.int p2), .val (.int (-1 : Int32)), .val (.int (2 : Int32)), .val (.int (1 : Int32)), .unset, .unset, .unset] []) (fun _ kx_ => XS.istore X197.here hx rfl (hb hby at_157) rfl (l' := #[.val (.int xsz), .val (.int xa), .val (.int xb), .val (.int xc), .val (.int xd), .val (.int xn), .val (.int p1), .val (.int p2), .val (.int p3), .val (.int xq), .val (.ref b101), .val (.ref at1), .val (.int p2), .val (.int (-1 : Int32)), .val (.int (2 : Int32)), .val (.int (1 : Int32)), .unset, .unset, .unset]) rfl kx_) ?_
            refine W.s1 (mkF m 161 #[.val (.int xsz), .val (.int xa), .val (.int xb), .val (.int xc), .val (.int xd), .val (.int xn), .val (.int p1), .val (.int p2), .val (.int p3), .val (.int xq), .val (.ref b101), .val (.ref at1), .val (.int p2), .val (.int (-1 : Int32)), .val (.int (2 : Int32)), .val (.int (1 : Int32)), .unset, .unset, .unset] [(.ref b101)]) (fun _ kx_ => XS.aload X197.here hx rfl (hb hby at_159) rfl rfl kx_) ?_
            refine W.s1 (mkF m 163 #[.val (.int xsz), .val (.int xa), .val (.int xb), .val (.int xc), .val (.int xd), .val (.int xn), .val (.int p1), .val (.int p2), .val (.int p3), .val (.int xq), .val (.ref b101), .val (.ref at1), .val (.int p2), .val (.int (-1 : Int32)), .val (.int (2 : Int32)), .val (.int (1 : Int32)), .unset, .unset, .unset] [(.int xq), (.ref b101)]) (fun _ kx_ => XS.iload X197.here hx rfl (hb hby at_161) rfl kx_) ?_
            obtain ⟨cq198, kq198, q198a, q198b, q198c⟩ := isOf hZ eq197 f194
            obtain ⟨_, _, ⟨T198, L198, k198, n198⟩, -, X198, ⟨Lc198, hQ198, l198, y198, z198⟩, st198⟩ := X197.virtualBack hx (y := (⟨"com/example/tempora/tempora/NotedPoints", "note", "(I)V"⟩ : MethodName)) (z := (⟨"com/example/tempora/tempora/NotedPoints", "note", "(I)V"⟩ : MethodName)) hown (mvT hZ (hw _ (List.mem_of_getElem? (i := 16) rfl))) (mvT hZ (hw _ (List.mem_of_getElem? (i := 17) rfl))) (notFace_of_selects (args := #[]) (mvT hZ (hw _ (List.mem_of_getElem? (i := 19) rfl)))) (mvT hZ (hw _ (List.mem_of_getElem? (i := 19) rfl))) (mvT hZ (hw _ (List.mem_of_getElem? (i := 18) rfl))) (by decide) (backOf (W := 0) (rm3 l Z a0 hw [] b101 xq ap an n xn [] k4 h193 n0 Z193 hn hn8 H193 hk4 hl4 (Or.inr hn1) hp4 hp5 hp3 ge101 ge_ap ge_an) hZ (hw _ (List.mem_of_getElem? (i := 20) rfl)) (hw _ (List.mem_of_getElem? (i := 3) rfl)) (by decide) (by decide)) q198a q198c (g := (mkF m 163 #[.val (.int xsz), .val (.int xa), .val (.int xb), .val (.int xc), .val (.int xd), .val (.int xn), .val (.int p1), .val (.int p2), .val (.int p3), .val (.int xq), .val (.ref b101), .val (.ref at1), .val (.int p2), .val (.int (-1 : Int32)), .val (.int (2 : Int32)), .val (.int (1 : Int32)), .unset, .unset, .unset] [(.int xq), (.ref b101)])) rfl (by rw [hml]; rfl) (Steps.refl _) (argsL := [(.int xq)]) (rest := []) (lenOf pd_3 rfl) rfl (by show 2 * 0 + _ ≤ _; exact Nat.le_of_eq rfl) (hb hby at_163) (fun _ _ => ⟨rfl, eq197, (by decide : 4 + 0 ≤ _), (by decide : 27 + 0 ≤ _)⟩)
            dsimp only [Pt.U, Pt.locs, Pt.cells, Pt.slots] at X198 l198 y198 z198 st198 hQ198
            subst l198 y198 z198
            obtain ⟨h198, e198⟩ : ∃ z, T198.heap = z := ⟨_, rfl⟩
            rw [e198] at hQ198
            obtain ⟨rfl, Nq198, Kq198, hz198⟩ := hQ198
            have N198 := Fr.app N197 Nq198
            have Z198 : n0 ≤ h198.size := Nat.le_trans Z193 Kq198.1
            have f199 := f194.keep Kq198
            have f200 := A193.keep Kq198 (ninS (Ne.symm ne195) (ninS (Ne.symm ne_ap_at1) (ninS (Ne.symm ne_an_at1) nin0)))
            have H198 : own_NP Z h198 b101 ap an n [xq] := hz198.elim (fun q => absurd q.1 List.not_mem_nil) (fun q => q.2)
            refine W.s3 (mkF m 166 #[.val (.int xsz), .val (.int xa), .val (.int xb), .val (.int xc), .val (.int xd), .val (.int xn), .val (.int p1), .val (.int p2), .val (.int p3), .val (.int xq), .val (.ref b101), .val (.ref at1), .val (.int p2), .val (.int (-1 : Int32)), .val (.int (2 : Int32)), .val (.int (1 : Int32)), .unset, .unset, .unset] []) st198 ?_
            refine W.s1 (mkF m 168 #[.val (.int xsz), .val (.int xa), .val (.int xb), .val (.int xc), .val (.int xd), .val (.int xn), .val (.int p1), .val (.int p2), .val (.int p3), .val (.int xq), .val (.ref b101), .val (.ref at1), .val (.int p2), .val (.int (-1 : Int32)), .val (.int (2 : Int32)), .val (.int (1 : Int32)), .unset, .unset, .unset] [(.ref b101)]) (fun _ kx_ => XS.aload X198.here hx rfl (hb hby at_166) rfl rfl kx_) ?_
            refine W.s1 (mkF m 170 #[.val (.int xsz), .val (.int xa), .val (.int xb), .val (.int xc), .val (.int xd), .val (.int xn), .val (.int p1), .val (.int p2), .val (.int p3), .val (.int xq), .val (.ref b101), .val (.ref at1), .val (.int p2), .val (.int (-1 : Int32)), .val (.int (2 : Int32)), .val (.int (1 : Int32)), .unset, .unset, .unset] [(.int p1), (.ref b101)]) (fun _ kx_ => XS.iload X198.here hx rfl (hb hby at_168) rfl kx_) ?_
            obtain ⟨cq201, kq201, q201a, q201b, q201c⟩ := isOf hZ e198 f199
            obtain ⟨_, _, ⟨T201, L201, k201, n201⟩, -, X201, ⟨Lc201, hQ201, l201, y201, z201⟩, st201⟩ := X198.virtualBack hx (y := (⟨"com/example/tempora/tempora/NotedPoints", "note", "(I)V"⟩ : MethodName)) (z := (⟨"com/example/tempora/tempora/NotedPoints", "note", "(I)V"⟩ : MethodName)) hown (mvT hZ (hw _ (List.mem_of_getElem? (i := 16) rfl))) (mvT hZ (hw _ (List.mem_of_getElem? (i := 17) rfl))) (notFace_of_selects (args := #[]) (mvT hZ (hw _ (List.mem_of_getElem? (i := 19) rfl)))) (mvT hZ (hw _ (List.mem_of_getElem? (i := 19) rfl))) (mvT hZ (hw _ (List.mem_of_getElem? (i := 18) rfl))) (by decide) (backOf (W := 0) (rm3 l Z a0 hw [] b101 p1 ap an n xn [xq] k1 h198 n0 Z198 hn hn8 H198 hk1 hl1 (if q : p1 ∈ ([xq] : List Int32) then Or.inl q else Or.inr (by simp only [List.mem_cons, List.not_mem_nil, or_false, not_or] at q; have := own_ne q; skip; show 1 < n; omega)) hp4 hp5 hp3 ge101 ge_ap ge_an) hZ (hw _ (List.mem_of_getElem? (i := 20) rfl)) (hw _ (List.mem_of_getElem? (i := 3) rfl)) (by decide) (by decide)) q201a q201c (g := (mkF m 170 #[.val (.int xsz), .val (.int xa), .val (.int xb), .val (.int xc), .val (.int xd), .val (.int xn), .val (.int p1), .val (.int p2), .val (.int p3), .val (.int xq), .val (.ref b101), .val (.ref at1), .val (.int p2), .val (.int (-1 : Int32)), .val (.int (2 : Int32)), .val (.int (1 : Int32)), .unset, .unset, .unset] [(.int p1), (.ref b101)])) rfl (by rw [hml]; rfl) (Steps.refl _) (argsL := [(.int p1)]) (rest := []) (lenOf pd_3 rfl) rfl (by show 2 * 0 + _ ≤ _; exact Nat.le_of_eq rfl) (hb hby at_170) (fun _ _ => ⟨rfl, e198, (by decide : 4 + 0 ≤ _), (by decide : 27 + 0 ≤ _)⟩)
            dsimp only [Pt.U, Pt.locs, Pt.cells, Pt.slots] at X201 l201 y201 z201 st201 hQ201
            subst l201 y201 z201
            obtain ⟨h201, e201⟩ : ∃ z, T201.heap = z := ⟨_, rfl⟩
            rw [e201] at hQ201
            obtain ⟨rfl, Nq201, Kq201, hz201⟩ := hQ201
            have N201 := Fr.app N198 Nq201
            have Z201 : n0 ≤ h201.size := Nat.le_trans Z198 Kq201.1
            have f202 := f199.keep Kq201
            have f203 := f200.keep Kq201 (ninS (Ne.symm ne195) (ninS (Ne.symm ne_ap_at1) (ninS (Ne.symm ne_an_at1) nin0)))
            refine W.s3 (mkF m 173 #[.val (.int xsz), .val (.int xa), .val (.int xb), .val (.int xc), .val (.int xd), .val (.int xn), .val (.int p1), .val (.int p2), .val (.int p3), .val (.int xq), .val (.ref b101), .val (.ref at1), .val (.int p2), .val (.int (-1 : Int32)), .val (.int (2 : Int32)), .val (.int (1 : Int32)), .unset, .unset, .unset] []) st201 ?_
            rcases hz201 with hz201 | hz201
            · have H201 := hz201.2
              have hm201 : p1 = xq := List.mem_singleton.mp hz201.1
              refine W.s1 (mkF m 175 #[.val (.int xsz), .val (.int xa), .val (.int xb), .val (.int xc), .val (.int xd), .val (.int xn), .val (.int p1), .val (.int p2), .val (.int p3), .val (.int xq), .val (.ref b101), .val (.ref at1), .val (.int p2), .val (.int (-1 : Int32)), .val (.int (2 : Int32)), .val (.int (1 : Int32)), .unset, .unset, .unset] [(.ref b101)]) (fun _ kx_ => XS.aload X201.here hx rfl (hb hby at_173) rfl rfl kx_) ?_
              have Zo_175 := Z201
              have hge_at2 : ap < h201.size ∧ an < h201.size := by obtain ⟨_, _, _, _, _, _, _, q1, q2, _⟩ := H201; exact ⟨q1.lt, q2.lt⟩
              obtain ⟨cq204, kq204, q204a, q204b, q204c⟩ := isOf hZ e201 f202
              obtain ⟨_, _, ⟨T204, L204, k204, n204⟩, -, X204, ⟨Lc204, hQ204, l204, y204, z204⟩, st204⟩ := X201.virtualBack hx (y := (⟨"com/example/tempora/tempora/NotedPoints", "take", "()[I"⟩ : MethodName)) (z := (⟨"com/example/tempora/tempora/NotedPoints", "take", "()[I"⟩ : MethodName)) hown (mvT hZ (hw _ (List.mem_of_getElem? (i := 23) rfl))) (mvT hZ (hw _ (List.mem_of_getElem? (i := 24) rfl))) (notFace_of_selects (args := #[]) (mvT hZ (hw _ (List.mem_of_getElem? (i := 26) rfl)))) (mvT hZ (hw _ (List.mem_of_getElem? (i := 26) rfl))) (mvT hZ (hw _ (List.mem_of_getElem? (i := 25) rfl))) (by decide) (backOf (W := 0) (rm4 l Z a0 hw [] b101 ap an n xn [xq] h201 n0 Z201 hn hn8 (by show 1 ≤ n; skip; omega) H201 hp4 hp5 hp3 ge101 ge_ap ge_an) hZ (hw _ (List.mem_of_getElem? (i := 27) rfl)) (hw _ (List.mem_of_getElem? (i := 3) rfl)) (by decide) (by decide)) q204a q204c (g := (mkF m 175 #[.val (.int xsz), .val (.int xa), .val (.int xb), .val (.int xc), .val (.int xd), .val (.int xn), .val (.int p1), .val (.int p2), .val (.int p3), .val (.int xq), .val (.ref b101), .val (.ref at1), .val (.int p2), .val (.int (-1 : Int32)), .val (.int (2 : Int32)), .val (.int (1 : Int32)), .unset, .unset, .unset] [(.ref b101)])) rfl (by rw [hml]; rfl) (Steps.refl _) (argsL := []) (rest := []) (lenOf pd_4 rfl) rfl (by show 2 * 0 + _ ≤ _; exact Nat.le_of_eq rfl) (hb hby at_175) (fun _ _ => ⟨rfl, e201, (by decide : 4 + 1 ≤ _), (by decide : 27 + 8 ≤ _)⟩)
              dsimp only [Pt.U, Pt.locs, Pt.cells, Pt.slots] at X204 l204 y204 z204 st204 hQ204
              subst l204 y204 z204
              obtain ⟨h204, e204⟩ : ∃ z, T204.heap = z := ⟨_, rfl⟩
              rw [e204] at hQ204
              obtain ⟨at2, rfl, Nq204, Kq204, hgtat2, hltat2, A204, H204⟩ := hQ204
              have N204 := Fr.app N201 Nq204
              have Z204 : n0 ≤ h204.size := Nat.le_trans Z201 Kq204.1
              have f205 := f202.keep Kq204
              have f206 := f203.keep Kq204 (ninS (Ne.symm ne195) (ninS (Ne.symm ne_ap_at1) (ninS (Ne.symm ne_an_at1) nin0)))
              have ne207 : b101 ≠ at2 := Nat.ne_of_lt (Nat.lt_of_lt_of_le f202.lt hgtat2)
              have ne208 : at1 ≠ at2 := Nat.ne_of_lt (Nat.lt_of_lt_of_le f203.lt hgtat2)
              have ge209 : n0 ≤ at2 := Nat.le_trans Zo_175 hgtat2
              have ne_ap_at2 : ap ≠ at2 := Nat.ne_of_lt (Nat.lt_of_lt_of_le hge_at2.1 hgtat2)
              have ne_an_at2 : an ≠ at2 := Nat.ne_of_lt (Nat.lt_of_lt_of_le hge_at2.2 hgtat2)
              refine W.s3 (mkF m 178 #[.val (.int xsz), .val (.int xa), .val (.int xb), .val (.int xc), .val (.int xd), .val (.int xn), .val (.int p1), .val (.int p2), .val (.int p3), .val (.int xq), .val (.ref b101), .val (.ref at1), .val (.int p2), .val (.int (-1 : Int32)), .val (.int (2 : Int32)), .val (.int (1 : Int32)), .unset, .unset, .unset] [(.ref at2)]) st204 ?_
              refine W.s1 (mkF m 180 #[.val (.int xsz), .val (.int xa), .val (.int xb), .val (.int xc), .val (.int xd), .val (.int xn), .val (.int p1), .val (.int p2), .val (.int p3), .val (.int xq), .val (.ref b101), .val (.ref at1), .val (.int p2), .val (.int (-1 : Int32)), .val (.int (2 : Int32)), .val (.int (1 : Int32)), .val (.ref at2), .unset, .unset] []) (fun _ kx_ => XS.astore X204.here hx rfl (hb hby at_178) rfl rfl (l' := #[.val (.int xsz), .val (.int xa), .val (.int xb), .val (.int xc), .val (.int xd), .val (.int xn), .val (.int p1), .val (.int p2), .val (.int p3), .val (.int xq), .val (.ref b101), .val (.ref at1), .val (.int p2), .val (.int (-1 : Int32)), .val (.int (2 : Int32)), .val (.int (1 : Int32)), .val (.ref at2), .unset, .unset]) rfl kx_) ?_
              refine W.s1 (mkF m 182 #[.val (.int xsz), .val (.int xa), .val (.int xb), .val (.int xc), .val (.int xd), .val (.int xn), .val (.int p1), .val (.int p2), .val (.int p3), .val (.int xq), .val (.ref b101), .val (.ref at1), .val (.int p2), .val (.int (-1 : Int32)), .val (.int (2 : Int32)), .val (.int (1 : Int32)), .val (.ref at2), .unset, .unset] [(.int xq)]) (fun _ kx_ => XS.iload X204.here hx rfl (hb hby at_180) rfl kx_) ?_
              refine W.s1 (mkF m 184 #[.val (.int xsz), .val (.int xa), .val (.int xb), .val (.int xc), .val (.int xd), .val (.int xn), .val (.int p1), .val (.int p2), .val (.int p3), .val (.int xq), .val (.ref b101), .val (.ref at1), .val (.int p2), .val (.int (-1 : Int32)), .val (.int (2 : Int32)), .val (.int (1 : Int32)), .val (.ref at2), .unset, .unset] [(.int p1), (.int xq)]) (fun _ kx_ => XS.iload X204.here hx rfl (hb hby at_182) rfl kx_) ?_
              refine W.icmp X204 hx (hb hby at_184) (pc' := 191) (pc'' := 187) (by decide) (by decide) rfl (fun (c184 : ¬ xq = p1) => ?_) (fun (c184 : xq = p1) => ?_)
              · exact absurd hm201.symm c184
              · refine W.s1 (mkF m 188 #[.val (.int xsz), .val (.int xa), .val (.int xb), .val (.int xc), .val (.int xd), .val (.int xn), .val (.int p1), .val (.int p2), .val (.int p3), .val (.int xq), .val (.ref b101), .val (.ref at1), .val (.int p2), .val (.int (-1 : Int32)), .val (.int (2 : Int32)), .val (.int (1 : Int32)), .val (.ref at2), .unset, .unset] [(.int (1 : Int32))]) (fun _ kx_ => XS.iconst X204.here hx rfl (hb hby at_187) kx_) ?_
                refine W.s1 (mkF m 192 #[.val (.int xsz), .val (.int xa), .val (.int xb), .val (.int xc), .val (.int xd), .val (.int xn), .val (.int p1), .val (.int p2), .val (.int p3), .val (.int xq), .val (.ref b101), .val (.ref at1), .val (.int p2), .val (.int (-1 : Int32)), .val (.int (2 : Int32)), .val (.int (1 : Int32)), .val (.ref at2), .unset, .unset] [(.int (1 : Int32))]) (fun _ kx_ => XS.goto X204.here hx rfl (pc0 := 188) (pc' := 192) rfl (hb hby at_188) (by decide) (by decide) kx_) ?_
                refine W.s1 (mkF m 194 #[.val (.int xsz), .val (.int xa), .val (.int xb), .val (.int xc), .val (.int xd), .val (.int xn), .val (.int p1), .val (.int p2), .val (.int p3), .val (.int xq), .val (.ref b101), .val (.ref at1), .val (.int p2), .val (.int (-1 : Int32)), .val (.int (2 : Int32)), .val (.int (1 : Int32)), .val (.ref at2), .val (.int (1 : Int32)), .unset] []) (fun _ kx_ => XS.istore X204.here hx rfl (hb hby at_192) rfl (l' := #[.val (.int xsz), .val (.int xa), .val (.int xb), .val (.int xc), .val (.int xd), .val (.int xn), .val (.int p1), .val (.int p2), .val (.int p3), .val (.int xq), .val (.ref b101), .val (.ref at1), .val (.int p2), .val (.int (-1 : Int32)), .val (.int (2 : Int32)), .val (.int (1 : Int32)), .val (.ref at2), .val (.int (1 : Int32)), .unset]) rfl kx_) ?_
                refine W.s1 (mkF m 196 #[.val (.int xsz), .val (.int xa), .val (.int xb), .val (.int xc), .val (.int xd), .val (.int xn), .val (.int p1), .val (.int p2), .val (.int p3), .val (.int xq), .val (.ref b101), .val (.ref at1), .val (.int p2), .val (.int (-1 : Int32)), .val (.int (2 : Int32)), .val (.int (1 : Int32)), .val (.ref at2), .val (.int (1 : Int32)), .unset] [(.ref at2)]) (fun _ kx_ => XS.aload X204.here hx rfl (hb hby at_194) rfl rfl kx_) ?_
                refine W.s1 (mkF m 198 #[.val (.int xsz), .val (.int xa), .val (.int xb), .val (.int xc), .val (.int xd), .val (.int xn), .val (.int p1), .val (.int p2), .val (.int p3), .val (.int xq), .val (.ref b101), .val (.ref at1), .val (.int p2), .val (.int (-1 : Int32)), .val (.int (2 : Int32)), .val (.int (1 : Int32)), .val (.ref at2), .val (.int (1 : Int32)), .unset] [(.int (1 : Int32)), (.ref at2)]) (fun _ kx_ => XS.iload X204.here hx rfl (hb hby at_196) rfl kx_) ?_
                refine W.s1 (mkF m 200 #[.val (.int xsz), .val (.int xa), .val (.int xb), .val (.int xc), .val (.int xd), .val (.int xn), .val (.int p1), .val (.int p2), .val (.int p3), .val (.int xq), .val (.ref b101), .val (.ref at1), .val (.int p2), .val (.int (-1 : Int32)), .val (.int (2 : Int32)), .val (.int (1 : Int32)), .val (.ref at2), .val (.int (1 : Int32)), .unset] [(.int xq), (.int (1 : Int32)), (.ref at2)]) (fun _ kx_ => XS.iload X204.here hx rfl (hb hby at_198) rfl kx_) ?_
                refine W.s1 (mkF m 202 #[.val (.int xsz), .val (.int xa), .val (.int xb), .val (.int xc), .val (.int xd), .val (.int xn), .val (.int p1), .val (.int p2), .val (.int p3), .val (.int xq), .val (.ref b101), .val (.ref at1), .val (.int p2), .val (.int (-1 : Int32)), .val (.int (2 : Int32)), .val (.int (1 : Int32)), .val (.ref at2), .val (.int (1 : Int32)), .unset] [(.int p1), (.int xq), (.int (1 : Int32)), (.ref at2)]) (fun _ kx_ => XS.iload X204.here hx rfl (hb hby at_200) rfl kx_) ?_
                refine W.s1 (mkF m 203 #[.val (.int xsz), .val (.int xa), .val (.int xb), .val (.int xc), .val (.int xd), .val (.int xn), .val (.int p1), .val (.int p2), .val (.int p3), .val (.int xq), .val (.ref b101), .val (.ref at1), .val (.int p2), .val (.int (-1 : Int32)), .val (.int (2 : Int32)), .val (.int (1 : Int32)), .val (.ref at2), .val (.int (1 : Int32)), .unset] [(.int (-1 : Int32)), (.int p1), (.int xq), (.int (1 : Int32)), (.ref at2)]) (fun _ kx_ => XS.iconst X204.here hx rfl (hb hby at_202) kx_) ?_
                obtain ⟨_, _, ⟨T210, L210, k210, n210⟩, -, X210, ⟨Lc210, hQ210, l210, y210, z210⟩, st210⟩ := Jvm.LawKit.callS X204 hx (y := (⟨"com/example/tempora/tempora/NotedPointsNotePinLaw", "same", "([IIIII)Z"⟩ : MethodName)) hown (mvT hZ (hw _ (List.mem_of_getElem? (i := 46) rfl))) (mvT hZ (hw _ (List.mem_of_getElem? (i := 47) rfl))) (mvT hZ (hw _ (List.mem_of_getElem? (i := 48) rfl))) (mvT hZ (hw _ (List.mem_of_getElem? (i := 49) rfl))) (by decide) (backOf (W := 0) (rm7 l Z a0 hw [] at2 (1 : Int32) xq p1 (-1 : Int32) 1 (fun i => [xq].getD i 0) h204 n0 Z204 A204 rfl (fun _ => rfl) (fun q => absurd q (by decide)) (fun q => absurd q (by decide))) hZ (hw _ (List.mem_of_getElem? (i := 49) rfl)) (hw _ (List.mem_of_getElem? (i := 48) rfl)) (by decide) (by decide)) (g := (mkF m 203 #[.val (.int xsz), .val (.int xa), .val (.int xb), .val (.int xc), .val (.int xd), .val (.int xn), .val (.int p1), .val (.int p2), .val (.int p3), .val (.int xq), .val (.ref b101), .val (.ref at1), .val (.int p2), .val (.int (-1 : Int32)), .val (.int (2 : Int32)), .val (.int (1 : Int32)), .val (.ref at2), .val (.int (1 : Int32)), .unset] [(.int (-1 : Int32)), (.int p1), (.int xq), (.int (1 : Int32)), (.ref at2)])) rfl (by rw [hml]; rfl) (argsL := [(.ref at2), (.int (1 : Int32)), (.int xq), (.int p1), (.int (-1 : Int32))]) (rest := []) (lenOf pd_5 rfl) rfl (by show 2 * 0 + _ ≤ _; exact Nat.le_of_eq rfl) (hb hby at_203) (fun _ _ => ⟨rfl, e204, (by decide : 5 + 0 ≤ _), (by decide : 35 + 0 ≤ _)⟩)
                dsimp only [Pt.U, Pt.locs, Pt.cells, Pt.slots] at X210 l210 y210 z210 st210 hQ210
                subst l210 y210 z210
                obtain ⟨rfl, Nq210, eq210⟩ := hQ210
                have N210 := Fr.app N204 Nq210
                refine W.s2 (mkF m 206 #[.val (.int xsz), .val (.int xa), .val (.int xb), .val (.int xc), .val (.int xd), .val (.int xn), .val (.int p1), .val (.int p2), .val (.int p3), .val (.int xq), .val (.ref b101), .val (.ref at1), .val (.int p2), .val (.int (-1 : Int32)), .val (.int (2 : Int32)), .val (.int (1 : Int32)), .val (.ref at2), .val (.int (1 : Int32)), .unset] [(.int (1 : Int32))]) st210 ?_
                refine W.s1 (mkF m 208 #[.val (.int xsz), .val (.int xa), .val (.int xb), .val (.int xc), .val (.int xd), .val (.int xn), .val (.int p1), .val (.int p2), .val (.int p3), .val (.int xq), .val (.ref b101), .val (.ref at1), .val (.int p2), .val (.int (-1 : Int32)), .val (.int (2 : Int32)), .val (.int (1 : Int32)), .val (.ref at2), .val (.int (1 : Int32)), .val (.int (1 : Int32))] []) (fun _ kx_ => XS.istore X210.here hx rfl (hb hby at_206) rfl (l' := #[.val (.int xsz), .val (.int xa), .val (.int xb), .val (.int xc), .val (.int xd), .val (.int xn), .val (.int p1), .val (.int p2), .val (.int p3), .val (.int xq), .val (.ref b101), .val (.ref at1), .val (.int p2), .val (.int (-1 : Int32)), .val (.int (2 : Int32)), .val (.int (1 : Int32)), .val (.ref at2), .val (.int (1 : Int32)), .val (.int (1 : Int32))]) rfl kx_) ?_
                refine W.s1 (mkF m 210 #[.val (.int xsz), .val (.int xa), .val (.int xb), .val (.int xc), .val (.int xd), .val (.int xn), .val (.int p1), .val (.int p2), .val (.int p3), .val (.int xq), .val (.ref b101), .val (.ref at1), .val (.int p2), .val (.int (-1 : Int32)), .val (.int (2 : Int32)), .val (.int (1 : Int32)), .val (.ref at2), .val (.int (1 : Int32)), .val (.int (1 : Int32))] [(.int (1 : Int32))]) (fun _ kx_ => XS.iload X210.here hx rfl (hb hby at_208) rfl kx_) ?_
                refine W.ifc X210 hx (hb hby at_210) (pc' := 222) (pc'' := 213) (by decide) (by decide) rfl (fun (c210 : (1 : Int32) = (0 : Int32)) => ?_) (fun (c210 : ¬ (1 : Int32) = (0 : Int32)) => ?_)
                · exact absurd c210 (by decide)
                · refine W.s1 (mkF m 215 #[.val (.int xsz), .val (.int xa), .val (.int xb), .val (.int xc), .val (.int xd), .val (.int xn), .val (.int p1), .val (.int p2), .val (.int p3), .val (.int xq), .val (.ref b101), .val (.ref at1), .val (.int p2), .val (.int (-1 : Int32)), .val (.int (2 : Int32)), .val (.int (1 : Int32)), .val (.ref at2), .val (.int (1 : Int32)), .val (.int (1 : Int32))] [(.int (1 : Int32))]) (fun _ kx_ => XS.iload X210.here hx rfl (hb hby at_213) rfl kx_) ?_
                  refine W.ifc X210 hx (hb hby at_215) (pc' := 222) (pc'' := 218) (by decide) (by decide) rfl (fun (c215 : (1 : Int32) = (0 : Int32)) => ?_) (fun (c215 : ¬ (1 : Int32) = (0 : Int32)) => ?_)
                  · exact absurd c215 (by decide)
                  · refine W.s1 (mkF m 219 #[.val (.int xsz), .val (.int xa), .val (.int xb), .val (.int xc), .val (.int xd), .val (.int xn), .val (.int p1), .val (.int p2), .val (.int p3), .val (.int xq), .val (.ref b101), .val (.ref at1), .val (.int p2), .val (.int (-1 : Int32)), .val (.int (2 : Int32)), .val (.int (1 : Int32)), .val (.ref at2), .val (.int (1 : Int32)), .val (.int (1 : Int32))] [(.int (1 : Int32))]) (fun _ kx_ => XS.iconst X210.here hx rfl (hb hby at_218) kx_) ?_
                    refine W.s1 (mkF m 223 #[.val (.int xsz), .val (.int xa), .val (.int xb), .val (.int xc), .val (.int xd), .val (.int xn), .val (.int p1), .val (.int p2), .val (.int p3), .val (.int xq), .val (.ref b101), .val (.ref at1), .val (.int p2), .val (.int (-1 : Int32)), .val (.int (2 : Int32)), .val (.int (1 : Int32)), .val (.ref at2), .val (.int (1 : Int32)), .val (.int (1 : Int32))] [(.int (1 : Int32))]) (fun _ kx_ => XS.goto X210.here hx rfl (pc0 := 219) (pc' := 223) rfl (hb hby at_219) (by decide) (by decide) kx_) ?_
                    exact W.retZ X210 hx hlk (t := .boolean) (z' := (1 : Int32)) Bd.returns (by simp) (hb hby at_223) rfl (by show Q0 Z xsz xa xb xc xd h0 n0 _ T210.heap _; rw [eq210]; exact ⟨rfl, N210⟩) (by decide) (by decide)
            · have H201 := hz201.2
              have hm201_0 : ¬ p1 = xq := fun q => hz201.1 (by rw [q]; simp)
              refine W.s1 (mkF m 175 #[.val (.int xsz), .val (.int xa), .val (.int xb), .val (.int xc), .val (.int xd), .val (.int xn), .val (.int p1), .val (.int p2), .val (.int p3), .val (.int xq), .val (.ref b101), .val (.ref at1), .val (.int p2), .val (.int (-1 : Int32)), .val (.int (2 : Int32)), .val (.int (1 : Int32)), .unset, .unset, .unset] [(.ref b101)]) (fun _ kx_ => XS.aload X201.here hx rfl (hb hby at_173) rfl rfl kx_) ?_
              have Zo_175 := Z201
              have hge_at2 : ap < h201.size ∧ an < h201.size := by obtain ⟨_, _, _, _, _, _, _, q1, q2, _⟩ := H201; exact ⟨q1.lt, q2.lt⟩
              obtain ⟨cq211, kq211, q211a, q211b, q211c⟩ := isOf hZ e201 f202
              obtain ⟨_, _, ⟨T211, L211, k211, n211⟩, -, X211, ⟨Lc211, hQ211, l211, y211, z211⟩, st211⟩ := X201.virtualBack hx (y := (⟨"com/example/tempora/tempora/NotedPoints", "take", "()[I"⟩ : MethodName)) (z := (⟨"com/example/tempora/tempora/NotedPoints", "take", "()[I"⟩ : MethodName)) hown (mvT hZ (hw _ (List.mem_of_getElem? (i := 23) rfl))) (mvT hZ (hw _ (List.mem_of_getElem? (i := 24) rfl))) (notFace_of_selects (args := #[]) (mvT hZ (hw _ (List.mem_of_getElem? (i := 26) rfl)))) (mvT hZ (hw _ (List.mem_of_getElem? (i := 26) rfl))) (mvT hZ (hw _ (List.mem_of_getElem? (i := 25) rfl))) (by decide) (backOf (W := 0) (rm4 l Z a0 hw [] b101 ap an n xn [xq, p1] h201 n0 Z201 hn hn8 (by show 2 ≤ n; have := own_ne hm201_0; skip; omega) H201 hp4 hp5 hp3 ge101 ge_ap ge_an) hZ (hw _ (List.mem_of_getElem? (i := 27) rfl)) (hw _ (List.mem_of_getElem? (i := 3) rfl)) (by decide) (by decide)) q211a q211c (g := (mkF m 175 #[.val (.int xsz), .val (.int xa), .val (.int xb), .val (.int xc), .val (.int xd), .val (.int xn), .val (.int p1), .val (.int p2), .val (.int p3), .val (.int xq), .val (.ref b101), .val (.ref at1), .val (.int p2), .val (.int (-1 : Int32)), .val (.int (2 : Int32)), .val (.int (1 : Int32)), .unset, .unset, .unset] [(.ref b101)])) rfl (by rw [hml]; rfl) (Steps.refl _) (argsL := []) (rest := []) (lenOf pd_4 rfl) rfl (by show 2 * 0 + _ ≤ _; exact Nat.le_of_eq rfl) (hb hby at_175) (fun _ _ => ⟨rfl, e201, (by decide : 4 + 1 ≤ _), (by decide : 27 + 8 ≤ _)⟩)
              dsimp only [Pt.U, Pt.locs, Pt.cells, Pt.slots] at X211 l211 y211 z211 st211 hQ211
              subst l211 y211 z211
              obtain ⟨h211, e211⟩ : ∃ z, T211.heap = z := ⟨_, rfl⟩
              rw [e211] at hQ211
              obtain ⟨at2, rfl, Nq211, Kq211, hgtat2, hltat2, A211, H211⟩ := hQ211
              have N211 := Fr.app N201 Nq211
              have Z211 : n0 ≤ h211.size := Nat.le_trans Z201 Kq211.1
              have f212 := f202.keep Kq211
              have f213 := f203.keep Kq211 (ninS (Ne.symm ne195) (ninS (Ne.symm ne_ap_at1) (ninS (Ne.symm ne_an_at1) nin0)))
              have ne214 : b101 ≠ at2 := Nat.ne_of_lt (Nat.lt_of_lt_of_le f202.lt hgtat2)
              have ne215 : at1 ≠ at2 := Nat.ne_of_lt (Nat.lt_of_lt_of_le f203.lt hgtat2)
              have ge216 : n0 ≤ at2 := Nat.le_trans Zo_175 hgtat2
              have ne_ap_at2 : ap ≠ at2 := Nat.ne_of_lt (Nat.lt_of_lt_of_le hge_at2.1 hgtat2)
              have ne_an_at2 : an ≠ at2 := Nat.ne_of_lt (Nat.lt_of_lt_of_le hge_at2.2 hgtat2)
              refine W.s3 (mkF m 178 #[.val (.int xsz), .val (.int xa), .val (.int xb), .val (.int xc), .val (.int xd), .val (.int xn), .val (.int p1), .val (.int p2), .val (.int p3), .val (.int xq), .val (.ref b101), .val (.ref at1), .val (.int p2), .val (.int (-1 : Int32)), .val (.int (2 : Int32)), .val (.int (1 : Int32)), .unset, .unset, .unset] [(.ref at2)]) st211 ?_
              refine W.s1 (mkF m 180 #[.val (.int xsz), .val (.int xa), .val (.int xb), .val (.int xc), .val (.int xd), .val (.int xn), .val (.int p1), .val (.int p2), .val (.int p3), .val (.int xq), .val (.ref b101), .val (.ref at1), .val (.int p2), .val (.int (-1 : Int32)), .val (.int (2 : Int32)), .val (.int (1 : Int32)), .val (.ref at2), .unset, .unset] []) (fun _ kx_ => XS.astore X211.here hx rfl (hb hby at_178) rfl rfl (l' := #[.val (.int xsz), .val (.int xa), .val (.int xb), .val (.int xc), .val (.int xd), .val (.int xn), .val (.int p1), .val (.int p2), .val (.int p3), .val (.int xq), .val (.ref b101), .val (.ref at1), .val (.int p2), .val (.int (-1 : Int32)), .val (.int (2 : Int32)), .val (.int (1 : Int32)), .val (.ref at2), .unset, .unset]) rfl kx_) ?_
              refine W.s1 (mkF m 182 #[.val (.int xsz), .val (.int xa), .val (.int xb), .val (.int xc), .val (.int xd), .val (.int xn), .val (.int p1), .val (.int p2), .val (.int p3), .val (.int xq), .val (.ref b101), .val (.ref at1), .val (.int p2), .val (.int (-1 : Int32)), .val (.int (2 : Int32)), .val (.int (1 : Int32)), .val (.ref at2), .unset, .unset] [(.int xq)]) (fun _ kx_ => XS.iload X211.here hx rfl (hb hby at_180) rfl kx_) ?_
              refine W.s1 (mkF m 184 #[.val (.int xsz), .val (.int xa), .val (.int xb), .val (.int xc), .val (.int xd), .val (.int xn), .val (.int p1), .val (.int p2), .val (.int p3), .val (.int xq), .val (.ref b101), .val (.ref at1), .val (.int p2), .val (.int (-1 : Int32)), .val (.int (2 : Int32)), .val (.int (1 : Int32)), .val (.ref at2), .unset, .unset] [(.int p1), (.int xq)]) (fun _ kx_ => XS.iload X211.here hx rfl (hb hby at_182) rfl kx_) ?_
              refine W.icmp X211 hx (hb hby at_184) (pc' := 191) (pc'' := 187) (by decide) (by decide) rfl (fun (c184 : ¬ xq = p1) => ?_) (fun (c184 : xq = p1) => ?_)
              · refine W.s1 (mkF m 192 #[.val (.int xsz), .val (.int xa), .val (.int xb), .val (.int xc), .val (.int xd), .val (.int xn), .val (.int p1), .val (.int p2), .val (.int p3), .val (.int xq), .val (.ref b101), .val (.ref at1), .val (.int p2), .val (.int (-1 : Int32)), .val (.int (2 : Int32)), .val (.int (1 : Int32)), .val (.ref at2), .unset, .unset] [(.int (2 : Int32))]) (fun _ kx_ => XS.iconst X211.here hx rfl (hb hby at_191) kx_) ?_
                refine W.s1 (mkF m 194 #[.val (.int xsz), .val (.int xa), .val (.int xb), .val (.int xc), .val (.int xd), .val (.int xn), .val (.int p1), .val (.int p2), .val (.int p3), .val (.int xq), .val (.ref b101), .val (.ref at1), .val (.int p2), .val (.int (-1 : Int32)), .val (.int (2 : Int32)), .val (.int (1 : Int32)), .val (.ref at2), .val (.int (2 : Int32)), .unset] []) (fun _ kx_ => XS.istore X211.here hx rfl (hb hby at_192) rfl (l' := #[.val (.int xsz), .val (.int xa), .val (.int xb), .val (.int xc), .val (.int xd), .val (.int xn), .val (.int p1), .val (.int p2), .val (.int p3), .val (.int xq), .val (.ref b101), .val (.ref at1), .val (.int p2), .val (.int (-1 : Int32)), .val (.int (2 : Int32)), .val (.int (1 : Int32)), .val (.ref at2), .val (.int (2 : Int32)), .unset]) rfl kx_) ?_
                refine W.s1 (mkF m 196 #[.val (.int xsz), .val (.int xa), .val (.int xb), .val (.int xc), .val (.int xd), .val (.int xn), .val (.int p1), .val (.int p2), .val (.int p3), .val (.int xq), .val (.ref b101), .val (.ref at1), .val (.int p2), .val (.int (-1 : Int32)), .val (.int (2 : Int32)), .val (.int (1 : Int32)), .val (.ref at2), .val (.int (2 : Int32)), .unset] [(.ref at2)]) (fun _ kx_ => XS.aload X211.here hx rfl (hb hby at_194) rfl rfl kx_) ?_
                refine W.s1 (mkF m 198 #[.val (.int xsz), .val (.int xa), .val (.int xb), .val (.int xc), .val (.int xd), .val (.int xn), .val (.int p1), .val (.int p2), .val (.int p3), .val (.int xq), .val (.ref b101), .val (.ref at1), .val (.int p2), .val (.int (-1 : Int32)), .val (.int (2 : Int32)), .val (.int (1 : Int32)), .val (.ref at2), .val (.int (2 : Int32)), .unset] [(.int (2 : Int32)), (.ref at2)]) (fun _ kx_ => XS.iload X211.here hx rfl (hb hby at_196) rfl kx_) ?_
                refine W.s1 (mkF m 200 #[.val (.int xsz), .val (.int xa), .val (.int xb), .val (.int xc), .val (.int xd), .val (.int xn), .val (.int p1), .val (.int p2), .val (.int p3), .val (.int xq), .val (.ref b101), .val (.ref at1), .val (.int p2), .val (.int (-1 : Int32)), .val (.int (2 : Int32)), .val (.int (1 : Int32)), .val (.ref at2), .val (.int (2 : Int32)), .unset] [(.int xq), (.int (2 : Int32)), (.ref at2)]) (fun _ kx_ => XS.iload X211.here hx rfl (hb hby at_198) rfl kx_) ?_
                refine W.s1 (mkF m 202 #[.val (.int xsz), .val (.int xa), .val (.int xb), .val (.int xc), .val (.int xd), .val (.int xn), .val (.int p1), .val (.int p2), .val (.int p3), .val (.int xq), .val (.ref b101), .val (.ref at1), .val (.int p2), .val (.int (-1 : Int32)), .val (.int (2 : Int32)), .val (.int (1 : Int32)), .val (.ref at2), .val (.int (2 : Int32)), .unset] [(.int p1), (.int xq), (.int (2 : Int32)), (.ref at2)]) (fun _ kx_ => XS.iload X211.here hx rfl (hb hby at_200) rfl kx_) ?_
                refine W.s1 (mkF m 203 #[.val (.int xsz), .val (.int xa), .val (.int xb), .val (.int xc), .val (.int xd), .val (.int xn), .val (.int p1), .val (.int p2), .val (.int p3), .val (.int xq), .val (.ref b101), .val (.ref at1), .val (.int p2), .val (.int (-1 : Int32)), .val (.int (2 : Int32)), .val (.int (1 : Int32)), .val (.ref at2), .val (.int (2 : Int32)), .unset] [(.int (-1 : Int32)), (.int p1), (.int xq), (.int (2 : Int32)), (.ref at2)]) (fun _ kx_ => XS.iconst X211.here hx rfl (hb hby at_202) kx_) ?_
                obtain ⟨_, _, ⟨T217, L217, k217, n217⟩, -, X217, ⟨Lc217, hQ217, l217, y217, z217⟩, st217⟩ := Jvm.LawKit.callS X211 hx (y := (⟨"com/example/tempora/tempora/NotedPointsNotePinLaw", "same", "([IIIII)Z"⟩ : MethodName)) hown (mvT hZ (hw _ (List.mem_of_getElem? (i := 46) rfl))) (mvT hZ (hw _ (List.mem_of_getElem? (i := 47) rfl))) (mvT hZ (hw _ (List.mem_of_getElem? (i := 48) rfl))) (mvT hZ (hw _ (List.mem_of_getElem? (i := 49) rfl))) (by decide) (backOf (W := 0) (rm7 l Z a0 hw [] at2 (2 : Int32) xq p1 (-1 : Int32) 2 (fun i => [xq, p1].getD i 0) h211 n0 Z211 A211 rfl (fun _ => rfl) (fun _ => rfl) (fun q => absurd q (by decide))) hZ (hw _ (List.mem_of_getElem? (i := 49) rfl)) (hw _ (List.mem_of_getElem? (i := 48) rfl)) (by decide) (by decide)) (g := (mkF m 203 #[.val (.int xsz), .val (.int xa), .val (.int xb), .val (.int xc), .val (.int xd), .val (.int xn), .val (.int p1), .val (.int p2), .val (.int p3), .val (.int xq), .val (.ref b101), .val (.ref at1), .val (.int p2), .val (.int (-1 : Int32)), .val (.int (2 : Int32)), .val (.int (1 : Int32)), .val (.ref at2), .val (.int (2 : Int32)), .unset] [(.int (-1 : Int32)), (.int p1), (.int xq), (.int (2 : Int32)), (.ref at2)])) rfl (by rw [hml]; rfl) (argsL := [(.ref at2), (.int (2 : Int32)), (.int xq), (.int p1), (.int (-1 : Int32))]) (rest := []) (lenOf pd_5 rfl) rfl (by show 2 * 0 + _ ≤ _; exact Nat.le_of_eq rfl) (hb hby at_203) (fun _ _ => ⟨rfl, e211, (by decide : 5 + 0 ≤ _), (by decide : 35 + 0 ≤ _)⟩)
                dsimp only [Pt.U, Pt.locs, Pt.cells, Pt.slots] at X217 l217 y217 z217 st217 hQ217
                subst l217 y217 z217
                obtain ⟨rfl, Nq217, eq217⟩ := hQ217
                have N217 := Fr.app N211 Nq217
                refine W.s2 (mkF m 206 #[.val (.int xsz), .val (.int xa), .val (.int xb), .val (.int xc), .val (.int xd), .val (.int xn), .val (.int p1), .val (.int p2), .val (.int p3), .val (.int xq), .val (.ref b101), .val (.ref at1), .val (.int p2), .val (.int (-1 : Int32)), .val (.int (2 : Int32)), .val (.int (1 : Int32)), .val (.ref at2), .val (.int (2 : Int32)), .unset] [(.int (1 : Int32))]) st217 ?_
                refine W.s1 (mkF m 208 #[.val (.int xsz), .val (.int xa), .val (.int xb), .val (.int xc), .val (.int xd), .val (.int xn), .val (.int p1), .val (.int p2), .val (.int p3), .val (.int xq), .val (.ref b101), .val (.ref at1), .val (.int p2), .val (.int (-1 : Int32)), .val (.int (2 : Int32)), .val (.int (1 : Int32)), .val (.ref at2), .val (.int (2 : Int32)), .val (.int (1 : Int32))] []) (fun _ kx_ => XS.istore X217.here hx rfl (hb hby at_206) rfl (l' := #[.val (.int xsz), .val (.int xa), .val (.int xb), .val (.int xc), .val (.int xd), .val (.int xn), .val (.int p1), .val (.int p2), .val (.int p3), .val (.int xq), .val (.ref b101), .val (.ref at1), .val (.int p2), .val (.int (-1 : Int32)), .val (.int (2 : Int32)), .val (.int (1 : Int32)), .val (.ref at2), .val (.int (2 : Int32)), .val (.int (1 : Int32))]) rfl kx_) ?_
                refine W.s1 (mkF m 210 #[.val (.int xsz), .val (.int xa), .val (.int xb), .val (.int xc), .val (.int xd), .val (.int xn), .val (.int p1), .val (.int p2), .val (.int p3), .val (.int xq), .val (.ref b101), .val (.ref at1), .val (.int p2), .val (.int (-1 : Int32)), .val (.int (2 : Int32)), .val (.int (1 : Int32)), .val (.ref at2), .val (.int (2 : Int32)), .val (.int (1 : Int32))] [(.int (1 : Int32))]) (fun _ kx_ => XS.iload X217.here hx rfl (hb hby at_208) rfl kx_) ?_
                refine W.ifc X217 hx (hb hby at_210) (pc' := 222) (pc'' := 213) (by decide) (by decide) rfl (fun (c210 : (1 : Int32) = (0 : Int32)) => ?_) (fun (c210 : ¬ (1 : Int32) = (0 : Int32)) => ?_)
                · exact absurd c210 (by decide)
                · refine W.s1 (mkF m 215 #[.val (.int xsz), .val (.int xa), .val (.int xb), .val (.int xc), .val (.int xd), .val (.int xn), .val (.int p1), .val (.int p2), .val (.int p3), .val (.int xq), .val (.ref b101), .val (.ref at1), .val (.int p2), .val (.int (-1 : Int32)), .val (.int (2 : Int32)), .val (.int (1 : Int32)), .val (.ref at2), .val (.int (2 : Int32)), .val (.int (1 : Int32))] [(.int (1 : Int32))]) (fun _ kx_ => XS.iload X217.here hx rfl (hb hby at_213) rfl kx_) ?_
                  refine W.ifc X217 hx (hb hby at_215) (pc' := 222) (pc'' := 218) (by decide) (by decide) rfl (fun (c215 : (1 : Int32) = (0 : Int32)) => ?_) (fun (c215 : ¬ (1 : Int32) = (0 : Int32)) => ?_)
                  · exact absurd c215 (by decide)
                  · refine W.s1 (mkF m 219 #[.val (.int xsz), .val (.int xa), .val (.int xb), .val (.int xc), .val (.int xd), .val (.int xn), .val (.int p1), .val (.int p2), .val (.int p3), .val (.int xq), .val (.ref b101), .val (.ref at1), .val (.int p2), .val (.int (-1 : Int32)), .val (.int (2 : Int32)), .val (.int (1 : Int32)), .val (.ref at2), .val (.int (2 : Int32)), .val (.int (1 : Int32))] [(.int (1 : Int32))]) (fun _ kx_ => XS.iconst X217.here hx rfl (hb hby at_218) kx_) ?_
                    refine W.s1 (mkF m 223 #[.val (.int xsz), .val (.int xa), .val (.int xb), .val (.int xc), .val (.int xd), .val (.int xn), .val (.int p1), .val (.int p2), .val (.int p3), .val (.int xq), .val (.ref b101), .val (.ref at1), .val (.int p2), .val (.int (-1 : Int32)), .val (.int (2 : Int32)), .val (.int (1 : Int32)), .val (.ref at2), .val (.int (2 : Int32)), .val (.int (1 : Int32))] [(.int (1 : Int32))]) (fun _ kx_ => XS.goto X217.here hx rfl (pc0 := 219) (pc' := 223) rfl (hb hby at_219) (by decide) (by decide) kx_) ?_
                    exact W.retZ X217 hx hlk (t := .boolean) (z' := (1 : Int32)) Bd.returns (by simp) (hb hby at_223) rfl (by show Q0 Z xsz xa xb xc xd h0 n0 _ T217.heap _; rw [eq217]; exact ⟨rfl, N217⟩) (by decide) (by decide)
              · exact absurd c184 (fun q => hm201_0 q.symm)
          · exact absurd hm166 c118
    · have H166 := hw166.2
      have hm166_0 : ¬ p3 = p1 := fun q => hw166.1 (by rw [q]; simp)
      have hm166_1 : ¬ p3 = p2 := fun q => hw166.1 (by rw [q]; simp)
      refine W.s1 (mkF m 79 #[.val (.int xsz), .val (.int xa), .val (.int xb), .val (.int xc), .val (.int xd), .val (.int xn), .val (.int p1), .val (.int p2), .val (.int p3), .val (.int xq), .val (.ref b101), .unset, .unset, .unset, .unset, .unset, .unset, .unset, .unset] [(.ref b101)]) (fun _ kx_ => XS.aload X166.here hx rfl (hb hby at_77) rfl rfl kx_) ?_
      have Zo_79 := Z166
      have hge_at1 : ap < h166.size ∧ an < h166.size := by obtain ⟨_, _, _, _, _, _, _, q1, q2, _⟩ := H166; exact ⟨q1.lt, q2.lt⟩
      obtain ⟨cq218, kq218, q218a, q218b, q218c⟩ := isOf hZ e166 f167
      obtain ⟨_, _, ⟨T218, L218, k218, n218⟩, -, X218, ⟨Lc218, hQ218, l218, y218, z218⟩, st218⟩ := X166.virtualBack hx (y := (⟨"com/example/tempora/tempora/NotedPoints", "take", "()[I"⟩ : MethodName)) (z := (⟨"com/example/tempora/tempora/NotedPoints", "take", "()[I"⟩ : MethodName)) hown (mvT hZ (hw _ (List.mem_of_getElem? (i := 23) rfl))) (mvT hZ (hw _ (List.mem_of_getElem? (i := 24) rfl))) (notFace_of_selects (args := #[]) (mvT hZ (hw _ (List.mem_of_getElem? (i := 26) rfl)))) (mvT hZ (hw _ (List.mem_of_getElem? (i := 26) rfl))) (mvT hZ (hw _ (List.mem_of_getElem? (i := 25) rfl))) (by decide) (backOf (W := 0) (rm4 l Z a0 hw [] b101 ap an n xn [p1, p2, p3] h166 n0 Z166 hn hn8 (by show 3 ≤ n; have := own_ne hm112_0; have := own_ne hm166_0; have := own_ne hm166_1; skip; omega) H166 hp4 hp5 hp3 ge101 ge_ap ge_an) hZ (hw _ (List.mem_of_getElem? (i := 27) rfl)) (hw _ (List.mem_of_getElem? (i := 3) rfl)) (by decide) (by decide)) q218a q218c (g := (mkF m 79 #[.val (.int xsz), .val (.int xa), .val (.int xb), .val (.int xc), .val (.int xd), .val (.int xn), .val (.int p1), .val (.int p2), .val (.int p3), .val (.int xq), .val (.ref b101), .unset, .unset, .unset, .unset, .unset, .unset, .unset, .unset] [(.ref b101)])) rfl (by rw [hml]; rfl) (Steps.refl _) (argsL := []) (rest := []) (lenOf pd_4 rfl) rfl (by show 2 * 0 + _ ≤ _; exact Nat.le_of_eq rfl) (hb hby at_79) (fun _ _ => ⟨rfl, e166, (by decide : 3 + 1 ≤ _), (by decide : 19 + 8 ≤ _)⟩)
      dsimp only [Pt.U, Pt.locs, Pt.cells, Pt.slots] at X218 l218 y218 z218 st218 hQ218
      subst l218 y218 z218
      obtain ⟨h218, e218⟩ : ∃ z, T218.heap = z := ⟨_, rfl⟩
      rw [e218] at hQ218
      obtain ⟨at1, rfl, Nq218, Kq218, hgtat1, hltat1, A218, H218⟩ := hQ218
      have N218 := Fr.app N166 Nq218
      have Z218 : n0 ≤ h218.size := Nat.le_trans Z166 Kq218.1
      have f219 := f167.keep Kq218
      have ne220 : b101 ≠ at1 := Nat.ne_of_lt (Nat.lt_of_lt_of_le f167.lt hgtat1)
      have ge221 : n0 ≤ at1 := Nat.le_trans Zo_79 hgtat1
      have ne_ap_at1 : ap ≠ at1 := Nat.ne_of_lt (Nat.lt_of_lt_of_le hge_at1.1 hgtat1)
      have ne_an_at1 : an ≠ at1 := Nat.ne_of_lt (Nat.lt_of_lt_of_le hge_at1.2 hgtat1)
      refine W.s3 (mkF m 82 #[.val (.int xsz), .val (.int xa), .val (.int xb), .val (.int xc), .val (.int xd), .val (.int xn), .val (.int p1), .val (.int p2), .val (.int p3), .val (.int xq), .val (.ref b101), .unset, .unset, .unset, .unset, .unset, .unset, .unset, .unset] [(.ref at1)]) st218 ?_
      refine W.s1 (mkF m 84 #[.val (.int xsz), .val (.int xa), .val (.int xb), .val (.int xc), .val (.int xd), .val (.int xn), .val (.int p1), .val (.int p2), .val (.int p3), .val (.int xq), .val (.ref b101), .val (.ref at1), .unset, .unset, .unset, .unset, .unset, .unset, .unset] []) (fun _ kx_ => XS.astore X218.here hx rfl (hb hby at_82) rfl rfl (l' := #[.val (.int xsz), .val (.int xa), .val (.int xb), .val (.int xc), .val (.int xd), .val (.int xn), .val (.int p1), .val (.int p2), .val (.int p3), .val (.int xq), .val (.ref b101), .val (.ref at1), .unset, .unset, .unset, .unset, .unset, .unset, .unset]) rfl kx_) ?_
      refine W.s1 (mkF m 85 #[.val (.int xsz), .val (.int xa), .val (.int xb), .val (.int xc), .val (.int xd), .val (.int xn), .val (.int p1), .val (.int p2), .val (.int p3), .val (.int xq), .val (.ref b101), .val (.ref at1), .unset, .unset, .unset, .unset, .unset, .unset, .unset] [(.int (-1 : Int32))]) (fun _ kx_ => XS.iconst X218.here hx rfl (hb hby at_84) kx_) ?_
      refine W.s1 (mkF m 87 #[.val (.int xsz), .val (.int xa), .val (.int xb), .val (.int xc), .val (.int xd), .val (.int xn), .val (.int p1), .val (.int p2), .val (.int p3), .val (.int xq), .val (.ref b101), .val (.ref at1), .val (.int (-1 : Int32)), .unset, .unset, .unset, .unset, .unset, .unset] []) (fun _ kx_ => XS.istore X218.here hx rfl (hb hby at_85) rfl (l' := #[.val (.int xsz), .val (.int xa), .val (.int xb), .val (.int xc), .val (.int xd), .val (.int xn), .val (.int p1), .val (.int p2), .val (.int p3), .val (.int xq), .val (.ref b101), .val (.ref at1), .val (.int (-1 : Int32)), .unset, .unset, .unset, .unset, .unset, .unset]) rfl kx_) ?_
      refine W.s1 (mkF m 88 #[.val (.int xsz), .val (.int xa), .val (.int xb), .val (.int xc), .val (.int xd), .val (.int xn), .val (.int p1), .val (.int p2), .val (.int p3), .val (.int xq), .val (.ref b101), .val (.ref at1), .val (.int (-1 : Int32)), .unset, .unset, .unset, .unset, .unset, .unset] [(.int (-1 : Int32))]) (fun _ kx_ => XS.iconst X218.here hx rfl (hb hby at_87) kx_) ?_
      refine W.s1 (mkF m 90 #[.val (.int xsz), .val (.int xa), .val (.int xb), .val (.int xc), .val (.int xd), .val (.int xn), .val (.int p1), .val (.int p2), .val (.int p3), .val (.int xq), .val (.ref b101), .val (.ref at1), .val (.int (-1 : Int32)), .val (.int (-1 : Int32)), .unset, .unset, .unset, .unset, .unset] []) (fun _ kx_ => XS.istore X218.here hx rfl (hb hby at_88) rfl (l' := #[.val (.int xsz), .val (.int xa), .val (.int xb), .val (.int xc), .val (.int xd), .val (.int xn), .val (.int p1), .val (.int p2), .val (.int p3), .val (.int xq), .val (.ref b101), .val (.ref at1), .val (.int (-1 : Int32)), .val (.int (-1 : Int32)), .unset, .unset, .unset, .unset, .unset]) rfl kx_) ?_
      refine W.s1 (mkF m 91 #[.val (.int xsz), .val (.int xa), .val (.int xb), .val (.int xc), .val (.int xd), .val (.int xn), .val (.int p1), .val (.int p2), .val (.int p3), .val (.int xq), .val (.ref b101), .val (.ref at1), .val (.int (-1 : Int32)), .val (.int (-1 : Int32)), .unset, .unset, .unset, .unset, .unset] [(.int (1 : Int32))]) (fun _ kx_ => XS.iconst X218.here hx rfl (hb hby at_90) kx_) ?_
      refine W.s1 (mkF m 93 #[.val (.int xsz), .val (.int xa), .val (.int xb), .val (.int xc), .val (.int xd), .val (.int xn), .val (.int p1), .val (.int p2), .val (.int p3), .val (.int xq), .val (.ref b101), .val (.ref at1), .val (.int (-1 : Int32)), .val (.int (-1 : Int32)), .val (.int (1 : Int32)), .unset, .unset, .unset, .unset] []) (fun _ kx_ => XS.istore X218.here hx rfl (hb hby at_91) rfl (l' := #[.val (.int xsz), .val (.int xa), .val (.int xb), .val (.int xc), .val (.int xd), .val (.int xn), .val (.int p1), .val (.int p2), .val (.int p3), .val (.int xq), .val (.ref b101), .val (.ref at1), .val (.int (-1 : Int32)), .val (.int (-1 : Int32)), .val (.int (1 : Int32)), .unset, .unset, .unset, .unset]) rfl kx_) ?_
      refine W.s1 (mkF m 95 #[.val (.int xsz), .val (.int xa), .val (.int xb), .val (.int xc), .val (.int xd), .val (.int xn), .val (.int p1), .val (.int p2), .val (.int p3), .val (.int xq), .val (.ref b101), .val (.ref at1), .val (.int (-1 : Int32)), .val (.int (-1 : Int32)), .val (.int (1 : Int32)), .unset, .unset, .unset, .unset] [(.int p2)]) (fun _ kx_ => XS.iload X218.here hx rfl (hb hby at_93) rfl kx_) ?_
      refine W.s1 (mkF m 97 #[.val (.int xsz), .val (.int xa), .val (.int xb), .val (.int xc), .val (.int xd), .val (.int xn), .val (.int p1), .val (.int p2), .val (.int p3), .val (.int xq), .val (.ref b101), .val (.ref at1), .val (.int (-1 : Int32)), .val (.int (-1 : Int32)), .val (.int (1 : Int32)), .unset, .unset, .unset, .unset] [(.int p1), (.int p2)]) (fun _ kx_ => XS.iload X218.here hx rfl (hb hby at_95) rfl kx_) ?_
      refine W.icmp X218 hx (hb hby at_97) (pc' := 107) (pc'' := 100) (by decide) (by decide) rfl (fun (c97 : p2 = p1) => ?_) (fun (c97 : ¬ p2 = p1) => ?_)
      · exact absurd c97 hm112_0
      · refine W.s1 (mkF m 102 #[.val (.int xsz), .val (.int xa), .val (.int xb), .val (.int xc), .val (.int xd), .val (.int xn), .val (.int p1), .val (.int p2), .val (.int p3), .val (.int xq), .val (.ref b101), .val (.ref at1), .val (.int (-1 : Int32)), .val (.int (-1 : Int32)), .val (.int (1 : Int32)), .unset, .unset, .unset, .unset] [(.int p2)]) (fun _ kx_ => XS.iload X218.here hx rfl (hb hby at_100) rfl kx_) ?_
        refine W.s1 (mkF m 104 #[.val (.int xsz), .val (.int xa), .val (.int xb), .val (.int xc), .val (.int xd), .val (.int xn), .val (.int p1), .val (.int p2), .val (.int p3), .val (.int xq), .val (.ref b101), .val (.ref at1), .val (.int p2), .val (.int (-1 : Int32)), .val (.int (1 : Int32)), .unset, .unset, .unset, .unset] []) (fun _ kx_ => XS.istore X218.here hx rfl (hb hby at_102) rfl (l' := #[.val (.int xsz), .val (.int xa), .val (.int xb), .val (.int xc), .val (.int xd), .val (.int xn), .val (.int p1), .val (.int p2), .val (.int p3), .val (.int xq), .val (.ref b101), .val (.ref at1), .val (.int p2), .val (.int (-1 : Int32)), .val (.int (1 : Int32)), .unset, .unset, .unset, .unset]) rfl kx_) ?_
        refine W.s1 (mkF m 105 #[.val (.int xsz), .val (.int xa), .val (.int xb), .val (.int xc), .val (.int xd), .val (.int xn), .val (.int p1), .val (.int p2), .val (.int p3), .val (.int xq), .val (.ref b101), .val (.ref at1), .val (.int p2), .val (.int (-1 : Int32)), .val (.int (1 : Int32)), .unset, .unset, .unset, .unset] [(.int (2 : Int32))]) (fun _ kx_ => XS.iconst X218.here hx rfl (hb hby at_104) kx_) ?_
        refine W.s1 (mkF m 107 #[.val (.int xsz), .val (.int xa), .val (.int xb), .val (.int xc), .val (.int xd), .val (.int xn), .val (.int p1), .val (.int p2), .val (.int p3), .val (.int xq), .val (.ref b101), .val (.ref at1), .val (.int p2), .val (.int (-1 : Int32)), .val (.int (2 : Int32)), .unset, .unset, .unset, .unset] []) (fun _ kx_ => XS.istore X218.here hx rfl (hb hby at_105) rfl (l' := #[.val (.int xsz), .val (.int xa), .val (.int xb), .val (.int xc), .val (.int xd), .val (.int xn), .val (.int p1), .val (.int p2), .val (.int p3), .val (.int xq), .val (.ref b101), .val (.ref at1), .val (.int p2), .val (.int (-1 : Int32)), .val (.int (2 : Int32)), .unset, .unset, .unset, .unset]) rfl kx_) ?_
        refine W.s1 (mkF m 109 #[.val (.int xsz), .val (.int xa), .val (.int xb), .val (.int xc), .val (.int xd), .val (.int xn), .val (.int p1), .val (.int p2), .val (.int p3), .val (.int xq), .val (.ref b101), .val (.ref at1), .val (.int p2), .val (.int (-1 : Int32)), .val (.int (2 : Int32)), .unset, .unset, .unset, .unset] [(.int p3)]) (fun _ kx_ => XS.iload X218.here hx rfl (hb hby at_107) rfl kx_) ?_
        refine W.s1 (mkF m 111 #[.val (.int xsz), .val (.int xa), .val (.int xb), .val (.int xc), .val (.int xd), .val (.int xn), .val (.int p1), .val (.int p2), .val (.int p3), .val (.int xq), .val (.ref b101), .val (.ref at1), .val (.int p2), .val (.int (-1 : Int32)), .val (.int (2 : Int32)), .unset, .unset, .unset, .unset] [(.int p1), (.int p3)]) (fun _ kx_ => XS.iload X218.here hx rfl (hb hby at_109) rfl kx_) ?_
        refine W.icmp X218 hx (hb hby at_111) (pc' := 144) (pc'' := 114) (by decide) (by decide) rfl (fun (c111 : p3 = p1) => ?_) (fun (c111 : ¬ p3 = p1) => ?_)
        · exact absurd c111 hm166_0
        · refine W.s1 (mkF m 116 #[.val (.int xsz), .val (.int xa), .val (.int xb), .val (.int xc), .val (.int xd), .val (.int xn), .val (.int p1), .val (.int p2), .val (.int p3), .val (.int xq), .val (.ref b101), .val (.ref at1), .val (.int p2), .val (.int (-1 : Int32)), .val (.int (2 : Int32)), .unset, .unset, .unset, .unset] [(.int p3)]) (fun _ kx_ => XS.iload X218.here hx rfl (hb hby at_114) rfl kx_) ?_
          refine W.s1 (mkF m 118 #[.val (.int xsz), .val (.int xa), .val (.int xb), .val (.int xc), .val (.int xd), .val (.int xn), .val (.int p1), .val (.int p2), .val (.int p3), .val (.int xq), .val (.ref b101), .val (.ref at1), .val (.int p2), .val (.int (-1 : Int32)), .val (.int (2 : Int32)), .unset, .unset, .unset, .unset] [(.int p2), (.int p3)]) (fun _ kx_ => XS.iload X218.here hx rfl (hb hby at_116) rfl kx_) ?_
          refine W.icmp X218 hx (hb hby at_118) (pc' := 144) (pc'' := 121) (by decide) (by decide) rfl (fun (c118 : p3 = p2) => ?_) (fun (c118 : ¬ p3 = p2) => ?_)
          · exact absurd c118 hm166_1
          · refine W.s1 (mkF m 123 #[.val (.int xsz), .val (.int xa), .val (.int xb), .val (.int xc), .val (.int xd), .val (.int xn), .val (.int p1), .val (.int p2), .val (.int p3), .val (.int xq), .val (.ref b101), .val (.ref at1), .val (.int p2), .val (.int (-1 : Int32)), .val (.int (2 : Int32)), .unset, .unset, .unset, .unset] [(.int (2 : Int32))]) (fun _ kx_ => XS.iload X218.here hx rfl (hb hby at_121) rfl kx_) ?_
            refine W.s1 (mkF m 124 #[.val (.int xsz), .val (.int xa), .val (.int xb), .val (.int xc), .val (.int xd), .val (.int xn), .val (.int p1), .val (.int p2), .val (.int p3), .val (.int xq), .val (.ref b101), .val (.ref at1), .val (.int p2), .val (.int (-1 : Int32)), .val (.int (2 : Int32)), .unset, .unset, .unset, .unset] [(.int (1 : Int32)), (.int (2 : Int32))]) (fun _ kx_ => XS.iconst X218.here hx rfl (hb hby at_123) kx_) ?_
            refine W.icmp X218 hx (hb hby at_124) (pc' := 134) (pc'' := 127) (by decide) (by decide) rfl (fun (c124 : ¬ (2 : Int32) = (1 : Int32)) => ?_) (fun (c124 : (2 : Int32) = (1 : Int32)) => ?_)
            · refine W.s1 (mkF m 136 #[.val (.int xsz), .val (.int xa), .val (.int xb), .val (.int xc), .val (.int xd), .val (.int xn), .val (.int p1), .val (.int p2), .val (.int p3), .val (.int xq), .val (.ref b101), .val (.ref at1), .val (.int p2), .val (.int (-1 : Int32)), .val (.int (2 : Int32)), .unset, .unset, .unset, .unset] [(.int p3)]) (fun _ kx_ => XS.iload X218.here hx rfl (hb hby at_134) rfl kx_) ?_
              refine W.s1 (mkF m 138 #[.val (.int xsz), .val (.int xa), .val (.int xb), .val (.int xc), .val (.int xd), .val (.int xn), .val (.int p1), .val (.int p2), .val (.int p3), .val (.int xq), .val (.ref b101), .val (.ref at1), .val (.int p2), .val (.int p3), .val (.int (2 : Int32)), .unset, .unset, .unset, .unset] []) (fun _ kx_ => XS.istore X218.here hx rfl (hb hby at_136) rfl (l' := #[.val (.int xsz), .val (.int xa), .val (.int xb), .val (.int xc), .val (.int xd), .val (.int xn), .val (.int p1), .val (.int p2), .val (.int p3), .val (.int xq), .val (.ref b101), .val (.ref at1), .val (.int p2), .val (.int p3), .val (.int (2 : Int32)), .unset, .unset, .unset, .unset]) rfl kx_) ?_
              refine W.s1 (mkF m 140 #[.val (.int xsz), .val (.int xa), .val (.int xb), .val (.int xc), .val (.int xd), .val (.int xn), .val (.int p1), .val (.int p2), .val (.int p3), .val (.int xq), .val (.ref b101), .val (.ref at1), .val (.int p2), .val (.int p3), .val (.int (2 : Int32)), .unset, .unset, .unset, .unset] [(.int (2 : Int32))]) (fun _ kx_ => XS.iload X218.here hx rfl (hb hby at_138) rfl kx_) ?_
              refine W.s1 (mkF m 141 #[.val (.int xsz), .val (.int xa), .val (.int xb), .val (.int xc), .val (.int xd), .val (.int xn), .val (.int p1), .val (.int p2), .val (.int p3), .val (.int xq), .val (.ref b101), .val (.ref at1), .val (.int p2), .val (.int p3), .val (.int (2 : Int32)), .unset, .unset, .unset, .unset] [(.int (1 : Int32)), (.int (2 : Int32))]) (fun _ kx_ => XS.iconst X218.here hx rfl (hb hby at_140) kx_) ?_
              refine W.s1 (mkF m 142 #[.val (.int xsz), .val (.int xa), .val (.int xb), .val (.int xc), .val (.int xd), .val (.int xn), .val (.int p1), .val (.int p2), .val (.int p3), .val (.int xq), .val (.ref b101), .val (.ref at1), .val (.int p2), .val (.int p3), .val (.int (2 : Int32)), .unset, .unset, .unset, .unset] [(.int (3 : Int32))]) (fun _ kx_ => XS.iadd X218.here hx rfl (hb hby at_141) rfl kx_) ?_
              refine W.s1 (mkF m 144 #[.val (.int xsz), .val (.int xa), .val (.int xb), .val (.int xc), .val (.int xd), .val (.int xn), .val (.int p1), .val (.int p2), .val (.int p3), .val (.int xq), .val (.ref b101), .val (.ref at1), .val (.int p2), .val (.int p3), .val (.int (3 : Int32)), .unset, .unset, .unset, .unset] []) (fun _ kx_ => XS.istore X218.here hx rfl (hb hby at_142) rfl (l' := #[.val (.int xsz), .val (.int xa), .val (.int xb), .val (.int xc), .val (.int xd), .val (.int xn), .val (.int p1), .val (.int p2), .val (.int p3), .val (.int xq), .val (.ref b101), .val (.ref at1), .val (.int p2), .val (.int p3), .val (.int (3 : Int32)), .unset, .unset, .unset, .unset]) rfl kx_) ?_
              refine W.s1 (mkF m 146 #[.val (.int xsz), .val (.int xa), .val (.int xb), .val (.int xc), .val (.int xd), .val (.int xn), .val (.int p1), .val (.int p2), .val (.int p3), .val (.int xq), .val (.ref b101), .val (.ref at1), .val (.int p2), .val (.int p3), .val (.int (3 : Int32)), .unset, .unset, .unset, .unset] [(.ref at1)]) (fun _ kx_ => XS.aload X218.here hx rfl (hb hby at_144) rfl rfl kx_) ?_
              refine W.s1 (mkF m 148 #[.val (.int xsz), .val (.int xa), .val (.int xb), .val (.int xc), .val (.int xd), .val (.int xn), .val (.int p1), .val (.int p2), .val (.int p3), .val (.int xq), .val (.ref b101), .val (.ref at1), .val (.int p2), .val (.int p3), .val (.int (3 : Int32)), .unset, .unset, .unset, .unset] [(.int (3 : Int32)), (.ref at1)]) (fun _ kx_ => XS.iload X218.here hx rfl (hb hby at_146) rfl kx_) ?_
              refine W.s1 (mkF m 150 #[.val (.int xsz), .val (.int xa), .val (.int xb), .val (.int xc), .val (.int xd), .val (.int xn), .val (.int p1), .val (.int p2), .val (.int p3), .val (.int xq), .val (.ref b101), .val (.ref at1), .val (.int p2), .val (.int p3), .val (.int (3 : Int32)), .unset, .unset, .unset, .unset] [(.int p1), (.int (3 : Int32)), (.ref at1)]) (fun _ kx_ => XS.iload X218.here hx rfl (hb hby at_148) rfl kx_) ?_
              refine W.s1 (mkF m 152 #[.val (.int xsz), .val (.int xa), .val (.int xb), .val (.int xc), .val (.int xd), .val (.int xn), .val (.int p1), .val (.int p2), .val (.int p3), .val (.int xq), .val (.ref b101), .val (.ref at1), .val (.int p2), .val (.int p3), .val (.int (3 : Int32)), .unset, .unset, .unset, .unset] [(.int p2), (.int p1), (.int (3 : Int32)), (.ref at1)]) (fun _ kx_ => XS.iload X218.here hx rfl (hb hby at_150) rfl kx_) ?_
              refine W.s1 (mkF m 154 #[.val (.int xsz), .val (.int xa), .val (.int xb), .val (.int xc), .val (.int xd), .val (.int xn), .val (.int p1), .val (.int p2), .val (.int p3), .val (.int xq), .val (.ref b101), .val (.ref at1), .val (.int p2), .val (.int p3), .val (.int (3 : Int32)), .unset, .unset, .unset, .unset] [(.int p3), (.int p2), (.int p1), (.int (3 : Int32)), (.ref at1)]) (fun _ kx_ => XS.iload X218.here hx rfl (hb hby at_152) rfl kx_) ?_
              obtain ⟨_, _, ⟨T222, L222, k222, n222⟩, -, X222, ⟨Lc222, hQ222, l222, y222, z222⟩, st222⟩ := Jvm.LawKit.callS X218 hx (y := (⟨"com/example/tempora/tempora/NotedPointsNotePinLaw", "same", "([IIIII)Z"⟩ : MethodName)) hown (mvT hZ (hw _ (List.mem_of_getElem? (i := 46) rfl))) (mvT hZ (hw _ (List.mem_of_getElem? (i := 47) rfl))) (mvT hZ (hw _ (List.mem_of_getElem? (i := 48) rfl))) (mvT hZ (hw _ (List.mem_of_getElem? (i := 49) rfl))) (by decide) (backOf (W := 0) (rm7 l Z a0 hw [] at1 (3 : Int32) p1 p2 p3 3 (fun i => [p1, p2, p3].getD i 0) h218 n0 Z218 A218 rfl (fun _ => rfl) (fun _ => rfl) (fun _ => rfl)) hZ (hw _ (List.mem_of_getElem? (i := 49) rfl)) (hw _ (List.mem_of_getElem? (i := 48) rfl)) (by decide) (by decide)) (g := (mkF m 154 #[.val (.int xsz), .val (.int xa), .val (.int xb), .val (.int xc), .val (.int xd), .val (.int xn), .val (.int p1), .val (.int p2), .val (.int p3), .val (.int xq), .val (.ref b101), .val (.ref at1), .val (.int p2), .val (.int p3), .val (.int (3 : Int32)), .unset, .unset, .unset, .unset] [(.int p3), (.int p2), (.int p1), (.int (3 : Int32)), (.ref at1)])) rfl (by rw [hml]; rfl) (argsL := [(.ref at1), (.int (3 : Int32)), (.int p1), (.int p2), (.int p3)]) (rest := []) (lenOf pd_5 rfl) rfl (by show 2 * 0 + _ ≤ _; exact Nat.le_of_eq rfl) (hb hby at_154) (fun _ _ => ⟨rfl, e218, (by decide : 4 + 0 ≤ _), (by decide : 27 + 0 ≤ _)⟩)
              dsimp only [Pt.U, Pt.locs, Pt.cells, Pt.slots] at X222 l222 y222 z222 st222 hQ222
              subst l222 y222 z222
              obtain ⟨rfl, Nq222, eq222⟩ := hQ222
              have N222 := Fr.app N218 Nq222
              refine W.s2 (mkF m 157 #[.val (.int xsz), .val (.int xa), .val (.int xb), .val (.int xc), .val (.int xd), .val (.int xn), .val (.int p1), .val (.int p2), .val (.int p3), .val (.int xq), .val (.ref b101), .val (.ref at1), .val (.int p2), .val (.int p3), .val (.int (3 : Int32)), .unset, .unset, .unset, .unset] [(.int (1 : Int32))]) st222 ?_
              refine W.s1 (mkF m 159 #[.val (.int xsz), .val (.int xa), .val (.int xb), .val (.int xc), .val (.int xd), .val (.int xn), .val (.int p1), .val (.int p2), .val (.int p3), .val (.int xq), .val (.ref b101), .val (.ref at1), .val (.int p2), .val (.int p3), .val (.int (3 : Int32)), .val (.int (1 : Int32)), .unset, .unset, .unset] []) (fun _ kx_ => XS.istore X222.here hx rfl (hb hby at_157) rfl (l' := #[.val (.int xsz), .val (.int xa), .val (.int xb), .val (.int xc), .val (.int xd), .val (.int xn), .val (.int p1), .val (.int p2), .val (.int p3), .val (.int xq), .val (.ref b101), .val (.ref at1), .val (.int p2), .val (.int p3), .val (.int (3 : Int32)), .val (.int (1 : Int32)), .unset, .unset, .unset]) rfl kx_) ?_
              refine W.s1 (mkF m 161 #[.val (.int xsz), .val (.int xa), .val (.int xb), .val (.int xc), .val (.int xd), .val (.int xn), .val (.int p1), .val (.int p2), .val (.int p3), .val (.int xq), .val (.ref b101), .val (.ref at1), .val (.int p2), .val (.int p3), .val (.int (3 : Int32)), .val (.int (1 : Int32)), .unset, .unset, .unset] [(.ref b101)]) (fun _ kx_ => XS.aload X222.here hx rfl (hb hby at_159) rfl rfl kx_) ?_
              refine W.s1 (mkF m 163 #[.val (.int xsz), .val (.int xa), .val (.int xb), .val (.int xc), .val (.int xd), .val (.int xn), .val (.int p1), .val (.int p2), .val (.int p3), .val (.int xq), .val (.ref b101), .val (.ref at1), .val (.int p2), .val (.int p3), .val (.int (3 : Int32)), .val (.int (1 : Int32)), .unset, .unset, .unset] [(.int xq), (.ref b101)]) (fun _ kx_ => XS.iload X222.here hx rfl (hb hby at_161) rfl kx_) ?_
              obtain ⟨cq223, kq223, q223a, q223b, q223c⟩ := isOf hZ eq222 f219
              obtain ⟨_, _, ⟨T223, L223, k223, n223⟩, -, X223, ⟨Lc223, hQ223, l223, y223, z223⟩, st223⟩ := X222.virtualBack hx (y := (⟨"com/example/tempora/tempora/NotedPoints", "note", "(I)V"⟩ : MethodName)) (z := (⟨"com/example/tempora/tempora/NotedPoints", "note", "(I)V"⟩ : MethodName)) hown (mvT hZ (hw _ (List.mem_of_getElem? (i := 16) rfl))) (mvT hZ (hw _ (List.mem_of_getElem? (i := 17) rfl))) (notFace_of_selects (args := #[]) (mvT hZ (hw _ (List.mem_of_getElem? (i := 19) rfl)))) (mvT hZ (hw _ (List.mem_of_getElem? (i := 19) rfl))) (mvT hZ (hw _ (List.mem_of_getElem? (i := 18) rfl))) (by decide) (backOf (W := 0) (rm3 l Z a0 hw [] b101 xq ap an n xn [] k4 h218 n0 Z218 hn hn8 H218 hk4 hl4 (Or.inr hn1) hp4 hp5 hp3 ge101 ge_ap ge_an) hZ (hw _ (List.mem_of_getElem? (i := 20) rfl)) (hw _ (List.mem_of_getElem? (i := 3) rfl)) (by decide) (by decide)) q223a q223c (g := (mkF m 163 #[.val (.int xsz), .val (.int xa), .val (.int xb), .val (.int xc), .val (.int xd), .val (.int xn), .val (.int p1), .val (.int p2), .val (.int p3), .val (.int xq), .val (.ref b101), .val (.ref at1), .val (.int p2), .val (.int p3), .val (.int (3 : Int32)), .val (.int (1 : Int32)), .unset, .unset, .unset] [(.int xq), (.ref b101)])) rfl (by rw [hml]; rfl) (Steps.refl _) (argsL := [(.int xq)]) (rest := []) (lenOf pd_3 rfl) rfl (by show 2 * 0 + _ ≤ _; exact Nat.le_of_eq rfl) (hb hby at_163) (fun _ _ => ⟨rfl, eq222, (by decide : 4 + 0 ≤ _), (by decide : 27 + 0 ≤ _)⟩)
              dsimp only [Pt.U, Pt.locs, Pt.cells, Pt.slots] at X223 l223 y223 z223 st223 hQ223
              subst l223 y223 z223
              obtain ⟨h223, e223⟩ : ∃ z, T223.heap = z := ⟨_, rfl⟩
              rw [e223] at hQ223
              obtain ⟨rfl, Nq223, Kq223, hz223⟩ := hQ223
              have N223 := Fr.app N222 Nq223
              have Z223 : n0 ≤ h223.size := Nat.le_trans Z218 Kq223.1
              have f224 := f219.keep Kq223
              have f225 := A218.keep Kq223 (ninS (Ne.symm ne220) (ninS (Ne.symm ne_ap_at1) (ninS (Ne.symm ne_an_at1) nin0)))
              have H223 : own_NP Z h223 b101 ap an n [xq] := hz223.elim (fun q => absurd q.1 List.not_mem_nil) (fun q => q.2)
              refine W.s3 (mkF m 166 #[.val (.int xsz), .val (.int xa), .val (.int xb), .val (.int xc), .val (.int xd), .val (.int xn), .val (.int p1), .val (.int p2), .val (.int p3), .val (.int xq), .val (.ref b101), .val (.ref at1), .val (.int p2), .val (.int p3), .val (.int (3 : Int32)), .val (.int (1 : Int32)), .unset, .unset, .unset] []) st223 ?_
              refine W.s1 (mkF m 168 #[.val (.int xsz), .val (.int xa), .val (.int xb), .val (.int xc), .val (.int xd), .val (.int xn), .val (.int p1), .val (.int p2), .val (.int p3), .val (.int xq), .val (.ref b101), .val (.ref at1), .val (.int p2), .val (.int p3), .val (.int (3 : Int32)), .val (.int (1 : Int32)), .unset, .unset, .unset] [(.ref b101)]) (fun _ kx_ => XS.aload X223.here hx rfl (hb hby at_166) rfl rfl kx_) ?_
              refine W.s1 (mkF m 170 #[.val (.int xsz), .val (.int xa), .val (.int xb), .val (.int xc), .val (.int xd), .val (.int xn), .val (.int p1), .val (.int p2), .val (.int p3), .val (.int xq), .val (.ref b101), .val (.ref at1), .val (.int p2), .val (.int p3), .val (.int (3 : Int32)), .val (.int (1 : Int32)), .unset, .unset, .unset] [(.int p1), (.ref b101)]) (fun _ kx_ => XS.iload X223.here hx rfl (hb hby at_168) rfl kx_) ?_
              obtain ⟨cq226, kq226, q226a, q226b, q226c⟩ := isOf hZ e223 f224
              obtain ⟨_, _, ⟨T226, L226, k226, n226⟩, -, X226, ⟨Lc226, hQ226, l226, y226, z226⟩, st226⟩ := X223.virtualBack hx (y := (⟨"com/example/tempora/tempora/NotedPoints", "note", "(I)V"⟩ : MethodName)) (z := (⟨"com/example/tempora/tempora/NotedPoints", "note", "(I)V"⟩ : MethodName)) hown (mvT hZ (hw _ (List.mem_of_getElem? (i := 16) rfl))) (mvT hZ (hw _ (List.mem_of_getElem? (i := 17) rfl))) (notFace_of_selects (args := #[]) (mvT hZ (hw _ (List.mem_of_getElem? (i := 19) rfl)))) (mvT hZ (hw _ (List.mem_of_getElem? (i := 19) rfl))) (mvT hZ (hw _ (List.mem_of_getElem? (i := 18) rfl))) (by decide) (backOf (W := 0) (rm3 l Z a0 hw [] b101 p1 ap an n xn [xq] k1 h223 n0 Z223 hn hn8 H223 hk1 hl1 (if q : p1 ∈ ([xq] : List Int32) then Or.inl q else Or.inr (by simp only [List.mem_cons, List.not_mem_nil, or_false, not_or] at q; have := own_ne q; skip; show 1 < n; omega)) hp4 hp5 hp3 ge101 ge_ap ge_an) hZ (hw _ (List.mem_of_getElem? (i := 20) rfl)) (hw _ (List.mem_of_getElem? (i := 3) rfl)) (by decide) (by decide)) q226a q226c (g := (mkF m 170 #[.val (.int xsz), .val (.int xa), .val (.int xb), .val (.int xc), .val (.int xd), .val (.int xn), .val (.int p1), .val (.int p2), .val (.int p3), .val (.int xq), .val (.ref b101), .val (.ref at1), .val (.int p2), .val (.int p3), .val (.int (3 : Int32)), .val (.int (1 : Int32)), .unset, .unset, .unset] [(.int p1), (.ref b101)])) rfl (by rw [hml]; rfl) (Steps.refl _) (argsL := [(.int p1)]) (rest := []) (lenOf pd_3 rfl) rfl (by show 2 * 0 + _ ≤ _; exact Nat.le_of_eq rfl) (hb hby at_170) (fun _ _ => ⟨rfl, e223, (by decide : 4 + 0 ≤ _), (by decide : 27 + 0 ≤ _)⟩)
              dsimp only [Pt.U, Pt.locs, Pt.cells, Pt.slots] at X226 l226 y226 z226 st226 hQ226
              subst l226 y226 z226
              obtain ⟨h226, e226⟩ : ∃ z, T226.heap = z := ⟨_, rfl⟩
              rw [e226] at hQ226
              obtain ⟨rfl, Nq226, Kq226, hz226⟩ := hQ226
              have N226 := Fr.app N223 Nq226
              have Z226 : n0 ≤ h226.size := Nat.le_trans Z223 Kq226.1
              have f227 := f224.keep Kq226
              have f228 := f225.keep Kq226 (ninS (Ne.symm ne220) (ninS (Ne.symm ne_ap_at1) (ninS (Ne.symm ne_an_at1) nin0)))
              refine W.s3 (mkF m 173 #[.val (.int xsz), .val (.int xa), .val (.int xb), .val (.int xc), .val (.int xd), .val (.int xn), .val (.int p1), .val (.int p2), .val (.int p3), .val (.int xq), .val (.ref b101), .val (.ref at1), .val (.int p2), .val (.int p3), .val (.int (3 : Int32)), .val (.int (1 : Int32)), .unset, .unset, .unset] []) st226 ?_
              rcases hz226 with hz226 | hz226
              · have H226 := hz226.2
                have hm226 : p1 = xq := List.mem_singleton.mp hz226.1
                refine W.s1 (mkF m 175 #[.val (.int xsz), .val (.int xa), .val (.int xb), .val (.int xc), .val (.int xd), .val (.int xn), .val (.int p1), .val (.int p2), .val (.int p3), .val (.int xq), .val (.ref b101), .val (.ref at1), .val (.int p2), .val (.int p3), .val (.int (3 : Int32)), .val (.int (1 : Int32)), .unset, .unset, .unset] [(.ref b101)]) (fun _ kx_ => XS.aload X226.here hx rfl (hb hby at_173) rfl rfl kx_) ?_
                have Zo_175 := Z226
                have hge_at2 : ap < h226.size ∧ an < h226.size := by obtain ⟨_, _, _, _, _, _, _, q1, q2, _⟩ := H226; exact ⟨q1.lt, q2.lt⟩
                obtain ⟨cq229, kq229, q229a, q229b, q229c⟩ := isOf hZ e226 f227
                obtain ⟨_, _, ⟨T229, L229, k229, n229⟩, -, X229, ⟨Lc229, hQ229, l229, y229, z229⟩, st229⟩ := X226.virtualBack hx (y := (⟨"com/example/tempora/tempora/NotedPoints", "take", "()[I"⟩ : MethodName)) (z := (⟨"com/example/tempora/tempora/NotedPoints", "take", "()[I"⟩ : MethodName)) hown (mvT hZ (hw _ (List.mem_of_getElem? (i := 23) rfl))) (mvT hZ (hw _ (List.mem_of_getElem? (i := 24) rfl))) (notFace_of_selects (args := #[]) (mvT hZ (hw _ (List.mem_of_getElem? (i := 26) rfl)))) (mvT hZ (hw _ (List.mem_of_getElem? (i := 26) rfl))) (mvT hZ (hw _ (List.mem_of_getElem? (i := 25) rfl))) (by decide) (backOf (W := 0) (rm4 l Z a0 hw [] b101 ap an n xn [xq] h226 n0 Z226 hn hn8 (by show 1 ≤ n; skip; omega) H226 hp4 hp5 hp3 ge101 ge_ap ge_an) hZ (hw _ (List.mem_of_getElem? (i := 27) rfl)) (hw _ (List.mem_of_getElem? (i := 3) rfl)) (by decide) (by decide)) q229a q229c (g := (mkF m 175 #[.val (.int xsz), .val (.int xa), .val (.int xb), .val (.int xc), .val (.int xd), .val (.int xn), .val (.int p1), .val (.int p2), .val (.int p3), .val (.int xq), .val (.ref b101), .val (.ref at1), .val (.int p2), .val (.int p3), .val (.int (3 : Int32)), .val (.int (1 : Int32)), .unset, .unset, .unset] [(.ref b101)])) rfl (by rw [hml]; rfl) (Steps.refl _) (argsL := []) (rest := []) (lenOf pd_4 rfl) rfl (by show 2 * 0 + _ ≤ _; exact Nat.le_of_eq rfl) (hb hby at_175) (fun _ _ => ⟨rfl, e226, (by decide : 4 + 1 ≤ _), (by decide : 27 + 8 ≤ _)⟩)
                dsimp only [Pt.U, Pt.locs, Pt.cells, Pt.slots] at X229 l229 y229 z229 st229 hQ229
                subst l229 y229 z229
                obtain ⟨h229, e229⟩ : ∃ z, T229.heap = z := ⟨_, rfl⟩
                rw [e229] at hQ229
                obtain ⟨at2, rfl, Nq229, Kq229, hgtat2, hltat2, A229, H229⟩ := hQ229
                have N229 := Fr.app N226 Nq229
                have Z229 : n0 ≤ h229.size := Nat.le_trans Z226 Kq229.1
                have f230 := f227.keep Kq229
                have f231 := f228.keep Kq229 (ninS (Ne.symm ne220) (ninS (Ne.symm ne_ap_at1) (ninS (Ne.symm ne_an_at1) nin0)))
                have ne232 : b101 ≠ at2 := Nat.ne_of_lt (Nat.lt_of_lt_of_le f227.lt hgtat2)
                have ne233 : at1 ≠ at2 := Nat.ne_of_lt (Nat.lt_of_lt_of_le f228.lt hgtat2)
                have ge234 : n0 ≤ at2 := Nat.le_trans Zo_175 hgtat2
                have ne_ap_at2 : ap ≠ at2 := Nat.ne_of_lt (Nat.lt_of_lt_of_le hge_at2.1 hgtat2)
                have ne_an_at2 : an ≠ at2 := Nat.ne_of_lt (Nat.lt_of_lt_of_le hge_at2.2 hgtat2)
                refine W.s3 (mkF m 178 #[.val (.int xsz), .val (.int xa), .val (.int xb), .val (.int xc), .val (.int xd), .val (.int xn), .val (.int p1), .val (.int p2), .val (.int p3), .val (.int xq), .val (.ref b101), .val (.ref at1), .val (.int p2), .val (.int p3), .val (.int (3 : Int32)), .val (.int (1 : Int32)), .unset, .unset, .unset] [(.ref at2)]) st229 ?_
                refine W.s1 (mkF m 180 #[.val (.int xsz), .val (.int xa), .val (.int xb), .val (.int xc), .val (.int xd), .val (.int xn), .val (.int p1), .val (.int p2), .val (.int p3), .val (.int xq), .val (.ref b101), .val (.ref at1), .val (.int p2), .val (.int p3), .val (.int (3 : Int32)), .val (.int (1 : Int32)), .val (.ref at2), .unset, .unset] []) (fun _ kx_ => XS.astore X229.here hx rfl (hb hby at_178) rfl rfl (l' := #[.val (.int xsz), .val (.int xa), .val (.int xb), .val (.int xc), .val (.int xd), .val (.int xn), .val (.int p1), .val (.int p2), .val (.int p3), .val (.int xq), .val (.ref b101), .val (.ref at1), .val (.int p2), .val (.int p3), .val (.int (3 : Int32)), .val (.int (1 : Int32)), .val (.ref at2), .unset, .unset]) rfl kx_) ?_
                refine W.s1 (mkF m 182 #[.val (.int xsz), .val (.int xa), .val (.int xb), .val (.int xc), .val (.int xd), .val (.int xn), .val (.int p1), .val (.int p2), .val (.int p3), .val (.int xq), .val (.ref b101), .val (.ref at1), .val (.int p2), .val (.int p3), .val (.int (3 : Int32)), .val (.int (1 : Int32)), .val (.ref at2), .unset, .unset] [(.int xq)]) (fun _ kx_ => XS.iload X229.here hx rfl (hb hby at_180) rfl kx_) ?_
                refine W.s1 (mkF m 184 #[.val (.int xsz), .val (.int xa), .val (.int xb), .val (.int xc), .val (.int xd), .val (.int xn), .val (.int p1), .val (.int p2), .val (.int p3), .val (.int xq), .val (.ref b101), .val (.ref at1), .val (.int p2), .val (.int p3), .val (.int (3 : Int32)), .val (.int (1 : Int32)), .val (.ref at2), .unset, .unset] [(.int p1), (.int xq)]) (fun _ kx_ => XS.iload X229.here hx rfl (hb hby at_182) rfl kx_) ?_
                refine W.icmp X229 hx (hb hby at_184) (pc' := 191) (pc'' := 187) (by decide) (by decide) rfl (fun (c184 : ¬ xq = p1) => ?_) (fun (c184 : xq = p1) => ?_)
                · exact absurd hm226.symm c184
                · refine W.s1 (mkF m 188 #[.val (.int xsz), .val (.int xa), .val (.int xb), .val (.int xc), .val (.int xd), .val (.int xn), .val (.int p1), .val (.int p2), .val (.int p3), .val (.int xq), .val (.ref b101), .val (.ref at1), .val (.int p2), .val (.int p3), .val (.int (3 : Int32)), .val (.int (1 : Int32)), .val (.ref at2), .unset, .unset] [(.int (1 : Int32))]) (fun _ kx_ => XS.iconst X229.here hx rfl (hb hby at_187) kx_) ?_
                  refine W.s1 (mkF m 192 #[.val (.int xsz), .val (.int xa), .val (.int xb), .val (.int xc), .val (.int xd), .val (.int xn), .val (.int p1), .val (.int p2), .val (.int p3), .val (.int xq), .val (.ref b101), .val (.ref at1), .val (.int p2), .val (.int p3), .val (.int (3 : Int32)), .val (.int (1 : Int32)), .val (.ref at2), .unset, .unset] [(.int (1 : Int32))]) (fun _ kx_ => XS.goto X229.here hx rfl (pc0 := 188) (pc' := 192) rfl (hb hby at_188) (by decide) (by decide) kx_) ?_
                  refine W.s1 (mkF m 194 #[.val (.int xsz), .val (.int xa), .val (.int xb), .val (.int xc), .val (.int xd), .val (.int xn), .val (.int p1), .val (.int p2), .val (.int p3), .val (.int xq), .val (.ref b101), .val (.ref at1), .val (.int p2), .val (.int p3), .val (.int (3 : Int32)), .val (.int (1 : Int32)), .val (.ref at2), .val (.int (1 : Int32)), .unset] []) (fun _ kx_ => XS.istore X229.here hx rfl (hb hby at_192) rfl (l' := #[.val (.int xsz), .val (.int xa), .val (.int xb), .val (.int xc), .val (.int xd), .val (.int xn), .val (.int p1), .val (.int p2), .val (.int p3), .val (.int xq), .val (.ref b101), .val (.ref at1), .val (.int p2), .val (.int p3), .val (.int (3 : Int32)), .val (.int (1 : Int32)), .val (.ref at2), .val (.int (1 : Int32)), .unset]) rfl kx_) ?_
                  refine W.s1 (mkF m 196 #[.val (.int xsz), .val (.int xa), .val (.int xb), .val (.int xc), .val (.int xd), .val (.int xn), .val (.int p1), .val (.int p2), .val (.int p3), .val (.int xq), .val (.ref b101), .val (.ref at1), .val (.int p2), .val (.int p3), .val (.int (3 : Int32)), .val (.int (1 : Int32)), .val (.ref at2), .val (.int (1 : Int32)), .unset] [(.ref at2)]) (fun _ kx_ => XS.aload X229.here hx rfl (hb hby at_194) rfl rfl kx_) ?_
                  refine W.s1 (mkF m 198 #[.val (.int xsz), .val (.int xa), .val (.int xb), .val (.int xc), .val (.int xd), .val (.int xn), .val (.int p1), .val (.int p2), .val (.int p3), .val (.int xq), .val (.ref b101), .val (.ref at1), .val (.int p2), .val (.int p3), .val (.int (3 : Int32)), .val (.int (1 : Int32)), .val (.ref at2), .val (.int (1 : Int32)), .unset] [(.int (1 : Int32)), (.ref at2)]) (fun _ kx_ => XS.iload X229.here hx rfl (hb hby at_196) rfl kx_) ?_
                  refine W.s1 (mkF m 200 #[.val (.int xsz), .val (.int xa), .val (.int xb), .val (.int xc), .val (.int xd), .val (.int xn), .val (.int p1), .val (.int p2), .val (.int p3), .val (.int xq), .val (.ref b101), .val (.ref at1), .val (.int p2), .val (.int p3), .val (.int (3 : Int32)), .val (.int (1 : Int32)), .val (.ref at2), .val (.int (1 : Int32)), .unset] [(.int xq), (.int (1 : Int32)), (.ref at2)]) (fun _ kx_ => XS.iload X229.here hx rfl (hb hby at_198) rfl kx_) ?_
                  refine W.s1 (mkF m 202 #[.val (.int xsz), .val (.int xa), .val (.int xb), .val (.int xc), .val (.int xd), .val (.int xn), .val (.int p1), .val (.int p2), .val (.int p3), .val (.int xq), .val (.ref b101), .val (.ref at1), .val (.int p2), .val (.int p3), .val (.int (3 : Int32)), .val (.int (1 : Int32)), .val (.ref at2), .val (.int (1 : Int32)), .unset] [(.int p1), (.int xq), (.int (1 : Int32)), (.ref at2)]) (fun _ kx_ => XS.iload X229.here hx rfl (hb hby at_200) rfl kx_) ?_
                  refine W.s1 (mkF m 203 #[.val (.int xsz), .val (.int xa), .val (.int xb), .val (.int xc), .val (.int xd), .val (.int xn), .val (.int p1), .val (.int p2), .val (.int p3), .val (.int xq), .val (.ref b101), .val (.ref at1), .val (.int p2), .val (.int p3), .val (.int (3 : Int32)), .val (.int (1 : Int32)), .val (.ref at2), .val (.int (1 : Int32)), .unset] [(.int (-1 : Int32)), (.int p1), (.int xq), (.int (1 : Int32)), (.ref at2)]) (fun _ kx_ => XS.iconst X229.here hx rfl (hb hby at_202) kx_) ?_
                  obtain ⟨_, _, ⟨T235, L235, k235, n235⟩, -, X235, ⟨Lc235, hQ235, l235, y235, z235⟩, st235⟩ := Jvm.LawKit.callS X229 hx (y := (⟨"com/example/tempora/tempora/NotedPointsNotePinLaw", "same", "([IIIII)Z"⟩ : MethodName)) hown (mvT hZ (hw _ (List.mem_of_getElem? (i := 46) rfl))) (mvT hZ (hw _ (List.mem_of_getElem? (i := 47) rfl))) (mvT hZ (hw _ (List.mem_of_getElem? (i := 48) rfl))) (mvT hZ (hw _ (List.mem_of_getElem? (i := 49) rfl))) (by decide) (backOf (W := 0) (rm7 l Z a0 hw [] at2 (1 : Int32) xq p1 (-1 : Int32) 1 (fun i => [xq].getD i 0) h229 n0 Z229 A229 rfl (fun _ => rfl) (fun q => absurd q (by decide)) (fun q => absurd q (by decide))) hZ (hw _ (List.mem_of_getElem? (i := 49) rfl)) (hw _ (List.mem_of_getElem? (i := 48) rfl)) (by decide) (by decide)) (g := (mkF m 203 #[.val (.int xsz), .val (.int xa), .val (.int xb), .val (.int xc), .val (.int xd), .val (.int xn), .val (.int p1), .val (.int p2), .val (.int p3), .val (.int xq), .val (.ref b101), .val (.ref at1), .val (.int p2), .val (.int p3), .val (.int (3 : Int32)), .val (.int (1 : Int32)), .val (.ref at2), .val (.int (1 : Int32)), .unset] [(.int (-1 : Int32)), (.int p1), (.int xq), (.int (1 : Int32)), (.ref at2)])) rfl (by rw [hml]; rfl) (argsL := [(.ref at2), (.int (1 : Int32)), (.int xq), (.int p1), (.int (-1 : Int32))]) (rest := []) (lenOf pd_5 rfl) rfl (by show 2 * 0 + _ ≤ _; exact Nat.le_of_eq rfl) (hb hby at_203) (fun _ _ => ⟨rfl, e229, (by decide : 5 + 0 ≤ _), (by decide : 35 + 0 ≤ _)⟩)
                  dsimp only [Pt.U, Pt.locs, Pt.cells, Pt.slots] at X235 l235 y235 z235 st235 hQ235
                  subst l235 y235 z235
                  obtain ⟨rfl, Nq235, eq235⟩ := hQ235
                  have N235 := Fr.app N229 Nq235
                  refine W.s2 (mkF m 206 #[.val (.int xsz), .val (.int xa), .val (.int xb), .val (.int xc), .val (.int xd), .val (.int xn), .val (.int p1), .val (.int p2), .val (.int p3), .val (.int xq), .val (.ref b101), .val (.ref at1), .val (.int p2), .val (.int p3), .val (.int (3 : Int32)), .val (.int (1 : Int32)), .val (.ref at2), .val (.int (1 : Int32)), .unset] [(.int (1 : Int32))]) st235 ?_
                  refine W.s1 (mkF m 208 #[.val (.int xsz), .val (.int xa), .val (.int xb), .val (.int xc), .val (.int xd), .val (.int xn), .val (.int p1), .val (.int p2), .val (.int p3), .val (.int xq), .val (.ref b101), .val (.ref at1), .val (.int p2), .val (.int p3), .val (.int (3 : Int32)), .val (.int (1 : Int32)), .val (.ref at2), .val (.int (1 : Int32)), .val (.int (1 : Int32))] []) (fun _ kx_ => XS.istore X235.here hx rfl (hb hby at_206) rfl (l' := #[.val (.int xsz), .val (.int xa), .val (.int xb), .val (.int xc), .val (.int xd), .val (.int xn), .val (.int p1), .val (.int p2), .val (.int p3), .val (.int xq), .val (.ref b101), .val (.ref at1), .val (.int p2), .val (.int p3), .val (.int (3 : Int32)), .val (.int (1 : Int32)), .val (.ref at2), .val (.int (1 : Int32)), .val (.int (1 : Int32))]) rfl kx_) ?_
                  refine W.s1 (mkF m 210 #[.val (.int xsz), .val (.int xa), .val (.int xb), .val (.int xc), .val (.int xd), .val (.int xn), .val (.int p1), .val (.int p2), .val (.int p3), .val (.int xq), .val (.ref b101), .val (.ref at1), .val (.int p2), .val (.int p3), .val (.int (3 : Int32)), .val (.int (1 : Int32)), .val (.ref at2), .val (.int (1 : Int32)), .val (.int (1 : Int32))] [(.int (1 : Int32))]) (fun _ kx_ => XS.iload X235.here hx rfl (hb hby at_208) rfl kx_) ?_
                  refine W.ifc X235 hx (hb hby at_210) (pc' := 222) (pc'' := 213) (by decide) (by decide) rfl (fun (c210 : (1 : Int32) = (0 : Int32)) => ?_) (fun (c210 : ¬ (1 : Int32) = (0 : Int32)) => ?_)
                  · exact absurd c210 (by decide)
                  · refine W.s1 (mkF m 215 #[.val (.int xsz), .val (.int xa), .val (.int xb), .val (.int xc), .val (.int xd), .val (.int xn), .val (.int p1), .val (.int p2), .val (.int p3), .val (.int xq), .val (.ref b101), .val (.ref at1), .val (.int p2), .val (.int p3), .val (.int (3 : Int32)), .val (.int (1 : Int32)), .val (.ref at2), .val (.int (1 : Int32)), .val (.int (1 : Int32))] [(.int (1 : Int32))]) (fun _ kx_ => XS.iload X235.here hx rfl (hb hby at_213) rfl kx_) ?_
                    refine W.ifc X235 hx (hb hby at_215) (pc' := 222) (pc'' := 218) (by decide) (by decide) rfl (fun (c215 : (1 : Int32) = (0 : Int32)) => ?_) (fun (c215 : ¬ (1 : Int32) = (0 : Int32)) => ?_)
                    · exact absurd c215 (by decide)
                    · refine W.s1 (mkF m 219 #[.val (.int xsz), .val (.int xa), .val (.int xb), .val (.int xc), .val (.int xd), .val (.int xn), .val (.int p1), .val (.int p2), .val (.int p3), .val (.int xq), .val (.ref b101), .val (.ref at1), .val (.int p2), .val (.int p3), .val (.int (3 : Int32)), .val (.int (1 : Int32)), .val (.ref at2), .val (.int (1 : Int32)), .val (.int (1 : Int32))] [(.int (1 : Int32))]) (fun _ kx_ => XS.iconst X235.here hx rfl (hb hby at_218) kx_) ?_
                      refine W.s1 (mkF m 223 #[.val (.int xsz), .val (.int xa), .val (.int xb), .val (.int xc), .val (.int xd), .val (.int xn), .val (.int p1), .val (.int p2), .val (.int p3), .val (.int xq), .val (.ref b101), .val (.ref at1), .val (.int p2), .val (.int p3), .val (.int (3 : Int32)), .val (.int (1 : Int32)), .val (.ref at2), .val (.int (1 : Int32)), .val (.int (1 : Int32))] [(.int (1 : Int32))]) (fun _ kx_ => XS.goto X235.here hx rfl (pc0 := 219) (pc' := 223) rfl (hb hby at_219) (by decide) (by decide) kx_) ?_
                      exact W.retZ X235 hx hlk (t := .boolean) (z' := (1 : Int32)) Bd.returns (by simp) (hb hby at_223) rfl (by show Q0 Z xsz xa xb xc xd h0 n0 _ T235.heap _; rw [eq235]; exact ⟨rfl, N235⟩) (by decide) (by decide)
              · have H226 := hz226.2
                have hm226_0 : ¬ p1 = xq := fun q => hz226.1 (by rw [q]; simp)
                refine W.s1 (mkF m 175 #[.val (.int xsz), .val (.int xa), .val (.int xb), .val (.int xc), .val (.int xd), .val (.int xn), .val (.int p1), .val (.int p2), .val (.int p3), .val (.int xq), .val (.ref b101), .val (.ref at1), .val (.int p2), .val (.int p3), .val (.int (3 : Int32)), .val (.int (1 : Int32)), .unset, .unset, .unset] [(.ref b101)]) (fun _ kx_ => XS.aload X226.here hx rfl (hb hby at_173) rfl rfl kx_) ?_
                have Zo_175 := Z226
                have hge_at2 : ap < h226.size ∧ an < h226.size := by obtain ⟨_, _, _, _, _, _, _, q1, q2, _⟩ := H226; exact ⟨q1.lt, q2.lt⟩
                obtain ⟨cq236, kq236, q236a, q236b, q236c⟩ := isOf hZ e226 f227
                obtain ⟨_, _, ⟨T236, L236, k236, n236⟩, -, X236, ⟨Lc236, hQ236, l236, y236, z236⟩, st236⟩ := X226.virtualBack hx (y := (⟨"com/example/tempora/tempora/NotedPoints", "take", "()[I"⟩ : MethodName)) (z := (⟨"com/example/tempora/tempora/NotedPoints", "take", "()[I"⟩ : MethodName)) hown (mvT hZ (hw _ (List.mem_of_getElem? (i := 23) rfl))) (mvT hZ (hw _ (List.mem_of_getElem? (i := 24) rfl))) (notFace_of_selects (args := #[]) (mvT hZ (hw _ (List.mem_of_getElem? (i := 26) rfl)))) (mvT hZ (hw _ (List.mem_of_getElem? (i := 26) rfl))) (mvT hZ (hw _ (List.mem_of_getElem? (i := 25) rfl))) (by decide) (backOf (W := 0) (rm4 l Z a0 hw [] b101 ap an n xn [xq, p1] h226 n0 Z226 hn hn8 (by show 2 ≤ n; have := own_ne hm226_0; skip; omega) H226 hp4 hp5 hp3 ge101 ge_ap ge_an) hZ (hw _ (List.mem_of_getElem? (i := 27) rfl)) (hw _ (List.mem_of_getElem? (i := 3) rfl)) (by decide) (by decide)) q236a q236c (g := (mkF m 175 #[.val (.int xsz), .val (.int xa), .val (.int xb), .val (.int xc), .val (.int xd), .val (.int xn), .val (.int p1), .val (.int p2), .val (.int p3), .val (.int xq), .val (.ref b101), .val (.ref at1), .val (.int p2), .val (.int p3), .val (.int (3 : Int32)), .val (.int (1 : Int32)), .unset, .unset, .unset] [(.ref b101)])) rfl (by rw [hml]; rfl) (Steps.refl _) (argsL := []) (rest := []) (lenOf pd_4 rfl) rfl (by show 2 * 0 + _ ≤ _; exact Nat.le_of_eq rfl) (hb hby at_175) (fun _ _ => ⟨rfl, e226, (by decide : 4 + 1 ≤ _), (by decide : 27 + 8 ≤ _)⟩)
                dsimp only [Pt.U, Pt.locs, Pt.cells, Pt.slots] at X236 l236 y236 z236 st236 hQ236
                subst l236 y236 z236
                obtain ⟨h236, e236⟩ : ∃ z, T236.heap = z := ⟨_, rfl⟩
                rw [e236] at hQ236
                obtain ⟨at2, rfl, Nq236, Kq236, hgtat2, hltat2, A236, H236⟩ := hQ236
                have N236 := Fr.app N226 Nq236
                have Z236 : n0 ≤ h236.size := Nat.le_trans Z226 Kq236.1
                have f237 := f227.keep Kq236
                have f238 := f228.keep Kq236 (ninS (Ne.symm ne220) (ninS (Ne.symm ne_ap_at1) (ninS (Ne.symm ne_an_at1) nin0)))
                have ne239 : b101 ≠ at2 := Nat.ne_of_lt (Nat.lt_of_lt_of_le f227.lt hgtat2)
                have ne240 : at1 ≠ at2 := Nat.ne_of_lt (Nat.lt_of_lt_of_le f228.lt hgtat2)
                have ge241 : n0 ≤ at2 := Nat.le_trans Zo_175 hgtat2
                have ne_ap_at2 : ap ≠ at2 := Nat.ne_of_lt (Nat.lt_of_lt_of_le hge_at2.1 hgtat2)
                have ne_an_at2 : an ≠ at2 := Nat.ne_of_lt (Nat.lt_of_lt_of_le hge_at2.2 hgtat2)
                refine W.s3 (mkF m 178 #[.val (.int xsz), .val (.int xa), .val (.int xb), .val (.int xc), .val (.int xd), .val (.int xn), .val (.int p1), .val (.int p2), .val (.int p3), .val (.int xq), .val (.ref b101), .val (.ref at1), .val (.int p2), .val (.int p3), .val (.int (3 : Int32)), .val (.int (1 : Int32)), .unset, .unset, .unset] [(.ref at2)]) st236 ?_
                refine W.s1 (mkF m 180 #[.val (.int xsz), .val (.int xa), .val (.int xb), .val (.int xc), .val (.int xd), .val (.int xn), .val (.int p1), .val (.int p2), .val (.int p3), .val (.int xq), .val (.ref b101), .val (.ref at1), .val (.int p2), .val (.int p3), .val (.int (3 : Int32)), .val (.int (1 : Int32)), .val (.ref at2), .unset, .unset] []) (fun _ kx_ => XS.astore X236.here hx rfl (hb hby at_178) rfl rfl (l' := #[.val (.int xsz), .val (.int xa), .val (.int xb), .val (.int xc), .val (.int xd), .val (.int xn), .val (.int p1), .val (.int p2), .val (.int p3), .val (.int xq), .val (.ref b101), .val (.ref at1), .val (.int p2), .val (.int p3), .val (.int (3 : Int32)), .val (.int (1 : Int32)), .val (.ref at2), .unset, .unset]) rfl kx_) ?_
                refine W.s1 (mkF m 182 #[.val (.int xsz), .val (.int xa), .val (.int xb), .val (.int xc), .val (.int xd), .val (.int xn), .val (.int p1), .val (.int p2), .val (.int p3), .val (.int xq), .val (.ref b101), .val (.ref at1), .val (.int p2), .val (.int p3), .val (.int (3 : Int32)), .val (.int (1 : Int32)), .val (.ref at2), .unset, .unset] [(.int xq)]) (fun _ kx_ => XS.iload X236.here hx rfl (hb hby at_180) rfl kx_) ?_
                refine W.s1 (mkF m 184 #[.val (.int xsz), .val (.int xa), .val (.int xb), .val (.int xc), .val (.int xd), .val (.int xn), .val (.int p1), .val (.int p2), .val (.int p3), .val (.int xq), .val (.ref b101), .val (.ref at1), .val (.int p2), .val (.int p3), .val (.int (3 : Int32)), .val (.int (1 : Int32)), .val (.ref at2), .unset, .unset] [(.int p1), (.int xq)]) (fun _ kx_ => XS.iload X236.here hx rfl (hb hby at_182) rfl kx_) ?_
                refine W.icmp X236 hx (hb hby at_184) (pc' := 191) (pc'' := 187) (by decide) (by decide) rfl (fun (c184 : ¬ xq = p1) => ?_) (fun (c184 : xq = p1) => ?_)
                · refine W.s1 (mkF m 192 #[.val (.int xsz), .val (.int xa), .val (.int xb), .val (.int xc), .val (.int xd), .val (.int xn), .val (.int p1), .val (.int p2), .val (.int p3), .val (.int xq), .val (.ref b101), .val (.ref at1), .val (.int p2), .val (.int p3), .val (.int (3 : Int32)), .val (.int (1 : Int32)), .val (.ref at2), .unset, .unset] [(.int (2 : Int32))]) (fun _ kx_ => XS.iconst X236.here hx rfl (hb hby at_191) kx_) ?_
                  refine W.s1 (mkF m 194 #[.val (.int xsz), .val (.int xa), .val (.int xb), .val (.int xc), .val (.int xd), .val (.int xn), .val (.int p1), .val (.int p2), .val (.int p3), .val (.int xq), .val (.ref b101), .val (.ref at1), .val (.int p2), .val (.int p3), .val (.int (3 : Int32)), .val (.int (1 : Int32)), .val (.ref at2), .val (.int (2 : Int32)), .unset] []) (fun _ kx_ => XS.istore X236.here hx rfl (hb hby at_192) rfl (l' := #[.val (.int xsz), .val (.int xa), .val (.int xb), .val (.int xc), .val (.int xd), .val (.int xn), .val (.int p1), .val (.int p2), .val (.int p3), .val (.int xq), .val (.ref b101), .val (.ref at1), .val (.int p2), .val (.int p3), .val (.int (3 : Int32)), .val (.int (1 : Int32)), .val (.ref at2), .val (.int (2 : Int32)), .unset]) rfl kx_) ?_
                  refine W.s1 (mkF m 196 #[.val (.int xsz), .val (.int xa), .val (.int xb), .val (.int xc), .val (.int xd), .val (.int xn), .val (.int p1), .val (.int p2), .val (.int p3), .val (.int xq), .val (.ref b101), .val (.ref at1), .val (.int p2), .val (.int p3), .val (.int (3 : Int32)), .val (.int (1 : Int32)), .val (.ref at2), .val (.int (2 : Int32)), .unset] [(.ref at2)]) (fun _ kx_ => XS.aload X236.here hx rfl (hb hby at_194) rfl rfl kx_) ?_
                  refine W.s1 (mkF m 198 #[.val (.int xsz), .val (.int xa), .val (.int xb), .val (.int xc), .val (.int xd), .val (.int xn), .val (.int p1), .val (.int p2), .val (.int p3), .val (.int xq), .val (.ref b101), .val (.ref at1), .val (.int p2), .val (.int p3), .val (.int (3 : Int32)), .val (.int (1 : Int32)), .val (.ref at2), .val (.int (2 : Int32)), .unset] [(.int (2 : Int32)), (.ref at2)]) (fun _ kx_ => XS.iload X236.here hx rfl (hb hby at_196) rfl kx_) ?_
                  refine W.s1 (mkF m 200 #[.val (.int xsz), .val (.int xa), .val (.int xb), .val (.int xc), .val (.int xd), .val (.int xn), .val (.int p1), .val (.int p2), .val (.int p3), .val (.int xq), .val (.ref b101), .val (.ref at1), .val (.int p2), .val (.int p3), .val (.int (3 : Int32)), .val (.int (1 : Int32)), .val (.ref at2), .val (.int (2 : Int32)), .unset] [(.int xq), (.int (2 : Int32)), (.ref at2)]) (fun _ kx_ => XS.iload X236.here hx rfl (hb hby at_198) rfl kx_) ?_
                  refine W.s1 (mkF m 202 #[.val (.int xsz), .val (.int xa), .val (.int xb), .val (.int xc), .val (.int xd), .val (.int xn), .val (.int p1), .val (.int p2), .val (.int p3), .val (.int xq), .val (.ref b101), .val (.ref at1), .val (.int p2), .val (.int p3), .val (.int (3 : Int32)), .val (.int (1 : Int32)), .val (.ref at2), .val (.int (2 : Int32)), .unset] [(.int p1), (.int xq), (.int (2 : Int32)), (.ref at2)]) (fun _ kx_ => XS.iload X236.here hx rfl (hb hby at_200) rfl kx_) ?_
                  refine W.s1 (mkF m 203 #[.val (.int xsz), .val (.int xa), .val (.int xb), .val (.int xc), .val (.int xd), .val (.int xn), .val (.int p1), .val (.int p2), .val (.int p3), .val (.int xq), .val (.ref b101), .val (.ref at1), .val (.int p2), .val (.int p3), .val (.int (3 : Int32)), .val (.int (1 : Int32)), .val (.ref at2), .val (.int (2 : Int32)), .unset] [(.int (-1 : Int32)), (.int p1), (.int xq), (.int (2 : Int32)), (.ref at2)]) (fun _ kx_ => XS.iconst X236.here hx rfl (hb hby at_202) kx_) ?_
                  obtain ⟨_, _, ⟨T242, L242, k242, n242⟩, -, X242, ⟨Lc242, hQ242, l242, y242, z242⟩, st242⟩ := Jvm.LawKit.callS X236 hx (y := (⟨"com/example/tempora/tempora/NotedPointsNotePinLaw", "same", "([IIIII)Z"⟩ : MethodName)) hown (mvT hZ (hw _ (List.mem_of_getElem? (i := 46) rfl))) (mvT hZ (hw _ (List.mem_of_getElem? (i := 47) rfl))) (mvT hZ (hw _ (List.mem_of_getElem? (i := 48) rfl))) (mvT hZ (hw _ (List.mem_of_getElem? (i := 49) rfl))) (by decide) (backOf (W := 0) (rm7 l Z a0 hw [] at2 (2 : Int32) xq p1 (-1 : Int32) 2 (fun i => [xq, p1].getD i 0) h236 n0 Z236 A236 rfl (fun _ => rfl) (fun _ => rfl) (fun q => absurd q (by decide))) hZ (hw _ (List.mem_of_getElem? (i := 49) rfl)) (hw _ (List.mem_of_getElem? (i := 48) rfl)) (by decide) (by decide)) (g := (mkF m 203 #[.val (.int xsz), .val (.int xa), .val (.int xb), .val (.int xc), .val (.int xd), .val (.int xn), .val (.int p1), .val (.int p2), .val (.int p3), .val (.int xq), .val (.ref b101), .val (.ref at1), .val (.int p2), .val (.int p3), .val (.int (3 : Int32)), .val (.int (1 : Int32)), .val (.ref at2), .val (.int (2 : Int32)), .unset] [(.int (-1 : Int32)), (.int p1), (.int xq), (.int (2 : Int32)), (.ref at2)])) rfl (by rw [hml]; rfl) (argsL := [(.ref at2), (.int (2 : Int32)), (.int xq), (.int p1), (.int (-1 : Int32))]) (rest := []) (lenOf pd_5 rfl) rfl (by show 2 * 0 + _ ≤ _; exact Nat.le_of_eq rfl) (hb hby at_203) (fun _ _ => ⟨rfl, e236, (by decide : 5 + 0 ≤ _), (by decide : 35 + 0 ≤ _)⟩)
                  dsimp only [Pt.U, Pt.locs, Pt.cells, Pt.slots] at X242 l242 y242 z242 st242 hQ242
                  subst l242 y242 z242
                  obtain ⟨rfl, Nq242, eq242⟩ := hQ242
                  have N242 := Fr.app N236 Nq242
                  refine W.s2 (mkF m 206 #[.val (.int xsz), .val (.int xa), .val (.int xb), .val (.int xc), .val (.int xd), .val (.int xn), .val (.int p1), .val (.int p2), .val (.int p3), .val (.int xq), .val (.ref b101), .val (.ref at1), .val (.int p2), .val (.int p3), .val (.int (3 : Int32)), .val (.int (1 : Int32)), .val (.ref at2), .val (.int (2 : Int32)), .unset] [(.int (1 : Int32))]) st242 ?_
                  refine W.s1 (mkF m 208 #[.val (.int xsz), .val (.int xa), .val (.int xb), .val (.int xc), .val (.int xd), .val (.int xn), .val (.int p1), .val (.int p2), .val (.int p3), .val (.int xq), .val (.ref b101), .val (.ref at1), .val (.int p2), .val (.int p3), .val (.int (3 : Int32)), .val (.int (1 : Int32)), .val (.ref at2), .val (.int (2 : Int32)), .val (.int (1 : Int32))] []) (fun _ kx_ => XS.istore X242.here hx rfl (hb hby at_206) rfl (l' := #[.val (.int xsz), .val (.int xa), .val (.int xb), .val (.int xc), .val (.int xd), .val (.int xn), .val (.int p1), .val (.int p2), .val (.int p3), .val (.int xq), .val (.ref b101), .val (.ref at1), .val (.int p2), .val (.int p3), .val (.int (3 : Int32)), .val (.int (1 : Int32)), .val (.ref at2), .val (.int (2 : Int32)), .val (.int (1 : Int32))]) rfl kx_) ?_
                  refine W.s1 (mkF m 210 #[.val (.int xsz), .val (.int xa), .val (.int xb), .val (.int xc), .val (.int xd), .val (.int xn), .val (.int p1), .val (.int p2), .val (.int p3), .val (.int xq), .val (.ref b101), .val (.ref at1), .val (.int p2), .val (.int p3), .val (.int (3 : Int32)), .val (.int (1 : Int32)), .val (.ref at2), .val (.int (2 : Int32)), .val (.int (1 : Int32))] [(.int (1 : Int32))]) (fun _ kx_ => XS.iload X242.here hx rfl (hb hby at_208) rfl kx_) ?_
                  refine W.ifc X242 hx (hb hby at_210) (pc' := 222) (pc'' := 213) (by decide) (by decide) rfl (fun (c210 : (1 : Int32) = (0 : Int32)) => ?_) (fun (c210 : ¬ (1 : Int32) = (0 : Int32)) => ?_)
                  · exact absurd c210 (by decide)
                  · refine W.s1 (mkF m 215 #[.val (.int xsz), .val (.int xa), .val (.int xb), .val (.int xc), .val (.int xd), .val (.int xn), .val (.int p1), .val (.int p2), .val (.int p3), .val (.int xq), .val (.ref b101), .val (.ref at1), .val (.int p2), .val (.int p3), .val (.int (3 : Int32)), .val (.int (1 : Int32)), .val (.ref at2), .val (.int (2 : Int32)), .val (.int (1 : Int32))] [(.int (1 : Int32))]) (fun _ kx_ => XS.iload X242.here hx rfl (hb hby at_213) rfl kx_) ?_
                    refine W.ifc X242 hx (hb hby at_215) (pc' := 222) (pc'' := 218) (by decide) (by decide) rfl (fun (c215 : (1 : Int32) = (0 : Int32)) => ?_) (fun (c215 : ¬ (1 : Int32) = (0 : Int32)) => ?_)
                    · exact absurd c215 (by decide)
                    · refine W.s1 (mkF m 219 #[.val (.int xsz), .val (.int xa), .val (.int xb), .val (.int xc), .val (.int xd), .val (.int xn), .val (.int p1), .val (.int p2), .val (.int p3), .val (.int xq), .val (.ref b101), .val (.ref at1), .val (.int p2), .val (.int p3), .val (.int (3 : Int32)), .val (.int (1 : Int32)), .val (.ref at2), .val (.int (2 : Int32)), .val (.int (1 : Int32))] [(.int (1 : Int32))]) (fun _ kx_ => XS.iconst X242.here hx rfl (hb hby at_218) kx_) ?_
                      refine W.s1 (mkF m 223 #[.val (.int xsz), .val (.int xa), .val (.int xb), .val (.int xc), .val (.int xd), .val (.int xn), .val (.int p1), .val (.int p2), .val (.int p3), .val (.int xq), .val (.ref b101), .val (.ref at1), .val (.int p2), .val (.int p3), .val (.int (3 : Int32)), .val (.int (1 : Int32)), .val (.ref at2), .val (.int (2 : Int32)), .val (.int (1 : Int32))] [(.int (1 : Int32))]) (fun _ kx_ => XS.goto X242.here hx rfl (pc0 := 219) (pc' := 223) rfl (hb hby at_219) (by decide) (by decide) kx_) ?_
                      exact W.retZ X242 hx hlk (t := .boolean) (z' := (1 : Int32)) Bd.returns (by simp) (hb hby at_223) rfl (by show Q0 Z xsz xa xb xc xd h0 n0 _ T242.heap _; rw [eq242]; exact ⟨rfl, N242⟩) (by decide) (by decide)
                · exact absurd c184 (fun q => hm226_0 q.symm)
            · exact absurd c124 (by decide)
set_option maxRecDepth 65536 in
set_option maxHeartbeats 40000000 in
theorem comes_1 {Post : Tables → Env → Array Value → State → Outcome → State → Prop} (hpost : ∀ tb e args s v u, (limb_1_1.after args s (.returned v) u = true ∧ limb_1_2.after args s (.returned v) u = true ∧ True) → FrameEnd s (.returned v) u (Jvm.fieldLocs frame_1_writes args s ++ Jvm.arrayLocs frame_1_arrays args s ++ Jvm.staticLocs frame_1_statics s) 24 128 → Post tb e args s (.returned v) u) :
    ArmFor flags0 classFile x code maxLocals ret World_1 tables_1 room_1 Calls_1 rest_1 Pre_1 Post := by
  intro l hfl _ _ p e ha hc hk s m args below hf hA hF happ hP
  obtain ⟨hcalls, hrest, hpre⟩ := hP
  obtain ⟨-, -, -, hnamed, -, -, -, hat⟩ := (Spec.applies_iff hf).mp happ
  obtain ⟨hg, hn⟩ := and_e (Cond.before_iff.mp (show (Jvm.Cond.and given_1 narrow_1).before args s = true from hpre))
  obtain ⟨gc, g0⟩ := and_e hg
  obtain ⟨w_0, g1⟩ := and_e g0
  obtain ⟨w_1, g2⟩ := and_e g1
  obtain ⟨w_2, g3⟩ := and_e g2
  obtain ⟨w_3, g4⟩ := and_e g3
  have w_4 := g4
  obtain ⟨w0, w1, w2, w3, w4, rfl⟩ : ∃ w0 w1 w2 w3 w4 : Value, args = #[w0, w1, w2, w3, w4] := by
    have hs : args.size = 5 := by simpa [Cond.value, given_1] using gc
    obtain ⟨L⟩ := args
    match L, hs with
    | [w0, w1, w2, w3, w4], _ => exact ⟨w0, w1, w2, w3, w4, rfl⟩
  have hw := fun d (hd : d ∈ tables_1) => atoms_spec (ws := Jvm.Cond.code x code maxLocals ret :: tables_1) hat d (List.mem_cons_of_mem _ hd)
  have hfit : Fit s := fun {y c} hc i hi => by
    obtain ⟨ha, rfl⟩ := Array.getElem?_eq_some_iff.mp hc
    have q := List.all_eq_true.mp ((Array.all_eq_true_iff_forall_mem.mp hF) _ (Array.getElem_mem ha)) i (List.mem_range.mpr hi)
    simpa [Array.getElem?_eq_getElem hi] using q
  obtain ⟨i0, ei0⟩ := is_v w_0
  obtain rfl : w0 = (.int i0) := Option.some.inj ei0
  obtain ⟨i1, ei1⟩ := is_v w_1
  obtain rfl : w1 = (.int i1) := Option.some.inj ei1
  obtain ⟨i2, ei2⟩ := is_v w_2
  obtain rfl : w2 = (.int i2) := Option.some.inj ei2
  obtain ⟨i3, ei3⟩ := is_v w_3
  obtain rfl : w3 = (.int i3) := Option.some.inj ei3
  obtain ⟨i4, ei4⟩ := is_v w_4
  obtain rfl : w4 = (.int i4) := Option.some.inj ei4
  obtain ⟨n, o, h1, h2, h3, _, L, rfl, ⟨rfl, N⟩, hq⟩ := rm0 l s _ hw tables_1 i0 i1 i2 i3 i4 s.heap s.heap.size (Nat.le_refl _)  p e ha hc hk s m _ below hf ((Spec.applies_iff_loose hf).mp happ).1 ⟨rfl, State.Warmed39.refl s, rfl⟩ trivial
  refine ⟨n, _, h1, h2, h3, hpost _ _ _ _ _ _ ⟨Cond.after_iff.mpr rfl, Cond.after_iff.mpr (eq_i res_at (Term.int_eval (1)) rfl), trivial⟩ ⟨hq.1, hq.2.1, (hq.2.2.sift fun y hy => Or.inr (N y hy)).mono (by decide) (by decide)⟩⟩
theorem main_1_1 : Claimed_1_1 := comes_1 fun _ _ _ _ _ _ h hF => ⟨h.1, hF⟩
theorem main_1_2 : Claimed_1_2 := comes_1 fun _ _ _ _ _ _ h hF => ⟨h.2.1, hF⟩
end Jvm.Pilot.@@N@@
namespace Jvm.Pilot.@@N@@
open Jvm Jvm.ClassFile Sem Op Lib Jvm.Free Jvm.Stand Jvm.Pilot.@@N@@.Jvm.D
/-! MADE BY PROGRAM (witnessworld.py) out of the Statement's table words and the real class files: 14 classes; the members and pool entries that the words name. The judged class is class 1, her method 1. -/
namespace start1
open Jvm.ClassFile
def u (s : String) : CpInfo := .utf8 (stringToUtf16 s)
/-- a pool by its gaps: so many unusable entries, then the entry; so many at the end -/
def gap : Nat → List CpInfo → List CpInfo
  | 0, r => r
  | n + 1, r => .unusable :: gap n r
def poolList (es : List (Nat × CpInfo)) (last : Nat) : List CpInfo := es.foldr (fun e r => gap e.1 (e.2 :: r)) (gap last [])
def pool (es : List (Nat × CpInfo)) (last : Nat) : Array CpInfo := ⟨poolList es last⟩
def fileOf (pool : Array CpInfo) (this : Nat) (attrs : Array Attribute := #[]) (ms : Array MethodInfo := #[]) (fl : Nat := 33) (sup : Nat := 0) (ifs : Array Nat := #[]) (fds : Array FieldInfo := #[]) : ClassFile where
  minorVersion := 0
  majorVersion := 65
  constantPool := pool
  accessFlags := fl
  thisClass := this
  superClass := sup
  interfaces := ifs
  fields := fds
  methods := ms
  attributes := attrs
def plain (name : String) (sup : Option ClassId) : Class where
  name := name
  kind := .ordinary
  loader := none
  accessFlags := 33
  super := sup
  interfaces := #[]
  cf := none
  fields := #[]
  methods := #[]
  instanceTypes := #[]
  staticTypes := #[]
  resolved := #[]
  callSites := []
  init := .initialized
  statics := none
  mirror := none

def pool0 : Array CpInfo := pool [(5, u "<init>"), (0, u "()V"), (1, .class_ 10), (1, u "java/lang/Object"), (85, u "clone"), (0, u "()Ljava/lang/Object;")] 26

def k0c0 : Code := { maxStack := 0, maxLocals := 1, code := object_method_1_code, exceptionTable := #[], attributes := #[] }
def k0m0 : Method := { name := "<init>", desc := "()V", sig := { parameters := [], returnType := none }, accessFlags := 1, code := some k0c0 }
def k0m1 : Method := { name := "clone", desc := "()Ljava/lang/Object;", sig := { parameters := [], returnType := some (.object "java/lang/Object") }, accessFlags := 260, code := none }
/-- java/lang/Object -/
def k0 : Class := { plain "java/lang/Object" none with
  accessFlags := 33
  interfaces := #[]
  cf := some (fileOf pool0 8 #[] #[{ accessFlags := 1, nameIndex := 5, descriptorIndex := 6, attributes := #[] }, { accessFlags := 260, nameIndex := 96, descriptorIndex := 97, attributes := #[] }] 33 0 #[] #[])
  fields := #[]
  methods := #[k0m0, k0m1]
  instanceTypes := #[]
  staticTypes := #[]
  resolved := Array.replicate 124 none
  statics := none }

def pool1 : Array CpInfo := pool [(2, .class_ 4), (1, u "java/lang/Object"), (0, u "<init>"), (0, u "()V"), (0, .integer 2147483647), (0, .class_ 9), (0, u "com/example/tempora/tempora/NotedPoints"), (0, .methodref 8 11), (0, .nameAndType 5 12), (0, u "(I)V"), (0, .methodref 8 14), (0, .nameAndType 15 12), (0, u "note"), (0, .methodref 8 17), (0, .nameAndType 18 19), (0, u "take"), (0, u "()[I"), (0, .methodref 21 22), (0, .class_ 23), (0, .nameAndType 24 25), (0, u "com/example/tempora/tempora/NotedPointsNotePinLaw"), (0, u "same"), (0, u "([IIIII)Z"), (2, u "law"), (0, u "(IIIII)Z")] 5

def k1m0 : Method := { name := "<init>", desc := "()V", sig := { parameters := [], returnType := none }, accessFlags := 1, code := none }
def k1c1 : Code := { maxStack := 5, maxLocals := 19, code := code, exceptionTable := #[], attributes := #[] }
def k1m1 : Method := { name := "law", desc := "(IIIII)Z", sig := { parameters := [.int, .int, .int, .int, .int], returnType := some .boolean }, accessFlags := 9, code := some k1c1 }
def k1c2 : Code := { maxStack := 2, maxLocals := 5, code := method_3_code, exceptionTable := #[], attributes := #[] }
def k1m2 : Method := { name := "same", desc := "([IIIII)Z", sig := { parameters := [(.array .int), .int, .int, .int, .int], returnType := some .boolean }, accessFlags := 10, code := some k1c2 }
/-- com/example/tempora/tempora/NotedPointsNotePinLaw -/
def k1 : Class := { plain "com/example/tempora/tempora/NotedPointsNotePinLaw" (some 0) with
  accessFlags := 49
  interfaces := #[]
  cf := some (fileOf pool1 21 #[] #[{ accessFlags := 1, nameIndex := 5, descriptorIndex := 6, attributes := #[] }, { accessFlags := 9, nameIndex := 28, descriptorIndex := 29, attributes := #[] }, { accessFlags := 10, nameIndex := 24, descriptorIndex := 25, attributes := #[] }] 49 2 #[] #[])
  fields := #[]
  methods := #[k1m0, k1m1, k1m2]
  instanceTypes := #[]
  staticTypes := #[]
  resolved := Array.replicate 35 none
  statics := none }

def pool2 : Array CpInfo := pool [(1, .methodref 2 3), (0, .class_ 4), (0, .nameAndType 5 6), (0, u "java/lang/Object"), (0, u "<init>"), (0, u "()V"), (0, .fieldref 8 9), (0, .class_ 10), (0, .nameAndType 11 12), (0, u "com/example/tempora/tempora/NotedPoints"), (0, u "points"), (0, u "[I"), (0, .fieldref 8 14), (0, .nameAndType 15 16), (0, u "noted"), (0, u "[Z"), (0, .fieldref 8 18), (0, .nameAndType 19 20), (0, u "count"), (0, u "I"), (0, .methodref 22 23), (0, .class_ 24), (0, .nameAndType 25 26), (0, u "java/util/Arrays"), (0, u "copyOf"), (0, u "([II)[I"), (0, .methodref 8 28), (0, .nameAndType 29 6), (0, u "clear"), (0, u "(I)V"), (2, u "note"), (1, u "take"), (0, u "()[I")] 2

def k2c0 : Code := { maxStack := 2, maxLocals := 2, code := prog_16_method_1_code, exceptionTable := #[], attributes := #[] }
def k2m0 : Method := { name := "<init>", desc := "(I)V", sig := { parameters := [.int], returnType := none }, accessFlags := 0, code := some k2c0 }
def k2c1 : Code := { maxStack := 5, maxLocals := 2, code := prog_16_method_2_code, exceptionTable := #[], attributes := #[] }
def k2m1 : Method := { name := "note", desc := "(I)V", sig := { parameters := [.int], returnType := none }, accessFlags := 0, code := some k2c1 }
def k2c2 : Code := { maxStack := 2, maxLocals := 2, code := prog_16_method_3_code, exceptionTable := #[], attributes := #[] }
def k2m2 : Method := { name := "take", desc := "()[I", sig := { parameters := [], returnType := some (.array .int) }, accessFlags := 0, code := some k2c2 }
def k2c3 : Code := { maxStack := 3, maxLocals := 2, code := prog_16_method_4_code, exceptionTable := #[], attributes := #[] }
def k2m3 : Method := { name := "clear", desc := "()V", sig := { parameters := [], returnType := none }, accessFlags := 0, code := some k2c3 }
/-- com/example/tempora/tempora/NotedPoints -/
def k2 : Class := { plain "com/example/tempora/tempora/NotedPoints" (some 0) with
  accessFlags := 48
  interfaces := #[]
  cf := some (fileOf pool2 8 #[] #[{ accessFlags := 0, nameIndex := 5, descriptorIndex := 30, attributes := #[] }, { accessFlags := 0, nameIndex := 33, descriptorIndex := 30, attributes := #[] }, { accessFlags := 0, nameIndex := 35, descriptorIndex := 36, attributes := #[] }, { accessFlags := 0, nameIndex := 29, descriptorIndex := 6, attributes := #[] }] 48 2 #[] #[{ accessFlags := 18, nameIndex := 11, descriptorIndex := 12, attributes := #[] }, { accessFlags := 18, nameIndex := 15, descriptorIndex := 16, attributes := #[] }, { accessFlags := 2, nameIndex := 19, descriptorIndex := 20, attributes := #[] }])
  fields := #[{ name := "points", type := (.array .int), accessFlags := 18, slot := 0, constantValue := 0 }, { name := "noted", type := (.array .boolean), accessFlags := 18, slot := 1, constantValue := 0 }, { name := "count", type := .int, accessFlags := 2, slot := 2, constantValue := 0 }]
  methods := #[k2m0, k2m1, k2m2, k2m3]
  instanceTypes := #[(.array .int), (.array .boolean), .int]
  staticTypes := #[]
  resolved := Array.replicate 39 none
  statics := none }

def pool3 : Array CpInfo := pool [(2, .class_ 4), (1, u "java/lang/Object"), (0, u "<init>"), (0, u "()V"), (7, .class_ 16), (1, u "java/util/Arrays"), (57, .class_ 76), (1, u "java/util/Arrays$NaturalOrder"), (32, u "()Ljava/lang/Object;"), (3, .class_ 115), (1, u "java/util/Arrays$LegacyMergeSort"), (1, u "Z"), (10, .nameAndType 129 109), (0, u "clone"), (20, .methodref 151 152), (0, .class_ 153), (0, .nameAndType 154 155), (0, u "java/lang/System"), (0, u "arraycopy"), (0, u "(Ljava/lang/Object;ILjava/lang/Object;II)V"), (146, u "copyOf"), (1, .methodref 305 306), (0, .class_ 307), (0, .nameAndType 308 309), (0, u "java/lang/Math"), (0, u "min"), (0, u "(II)I"), (6, .methodref 317 128), (0, .class_ 318), (0, u "[I"), (56, .class_ 376), (0, u "java/util/Arrays$ArrayList"), (68, u "$assertionsDisabled"), (269, u "MIN_ARRAY_SORT_GRAN"), (0, u "I"), (2, u "INSERTIONSORT_THRESHOLD"), (151, u "([II)[I"), (103, .class_ 976), (0, u "java/util/Arrays$ArrayItr")] 52

def k3m0 : Method := { name := "<init>", desc := "()V", sig := { parameters := [], returnType := none }, accessFlags := 2, code := none }
def k3c1 : Code := { maxStack := 6, maxLocals := 3, code := jdk_65_method_123_code, exceptionTable := #[], attributes := #[] }
def k3m1 : Method := { name := "copyOf", desc := "([II)[I", sig := { parameters := [(.array .int), .int], returnType := some (.array .int) }, accessFlags := 9, code := some k3c1 }
/-- java/util/Arrays -/
def k3 : Class := { plain "java/util/Arrays" (some 0) with
  accessFlags := 49
  interfaces := #[]
  cf := some (fileOf pool3 14 #[.nestMembers #[975, 375, 113, 74]] #[{ accessFlags := 2, nameIndex := 5, descriptorIndex := 6, attributes := #[] }, { accessFlags := 9, nameIndex := 302, descriptorIndex := 871, attributes := #[] }] 49 2 #[] #[{ accessFlags := 26, nameIndex := 715, descriptorIndex := 716, attributes := #[] }, { accessFlags := 26, nameIndex := 719, descriptorIndex := 716, attributes := #[] }, { accessFlags := 4120, nameIndex := 445, descriptorIndex := 117, attributes := #[] }])
  fields := #[{ name := "MIN_ARRAY_SORT_GRAN", type := .int, accessFlags := 26, slot := 0, constantValue := 0 }, { name := "INSERTIONSORT_THRESHOLD", type := .int, accessFlags := 26, slot := 1, constantValue := 0 }, { name := "$assertionsDisabled", type := .boolean, accessFlags := 4120, slot := 2, constantValue := 0 }]
  methods := #[k3m0, k3m1]
  instanceTypes := #[]
  staticTypes := #[.int, .int, .boolean]
  resolved := Array.replicate 1029 none
  statics := none }

def pool4 : Array CpInfo := pool [(1, .class_ 2), (0, u "java/lang/Cloneable"), (0, .class_ 4), (0, u "java/lang/Object")] 2

/-- java/lang/Cloneable -/
def k4 : Class := { plain "java/lang/Cloneable" (some 0) with
  accessFlags := 1537
  interfaces := #[]
  cf := some (fileOf pool4 1 #[] #[] 1537 3 #[] #[])
  fields := #[]
  methods := #[]
  instanceTypes := #[]
  staticTypes := #[]
  resolved := Array.replicate 7 none
  statics := none }

def pool5 : Array CpInfo := pool [(1, .class_ 2), (0, u "java/lang/Math"), (1, .class_ 6), (1, u "java/lang/Object"), (0, u "<init>"), (0, u "()V"), (89, .class_ 100), (1, u "java/lang/Math$RandomNumberGeneratorHolder"), (71, u "negativeZeroFloatBits"), (0, u "J"), (2, u "negativeZeroDoubleBits"), (24, u "min"), (43, u "$assertionsDisabled"), (0, u "Z"), (88, u "(II)I"), (2, u "twoToTheDoubleScaleDown"), (0, u "D"), (4, u "twoToTheDoubleScaleUp"), (9, u "E"), (3, u "PI"), (2, u "TAU"), (2, u "DEGREES_TO_RADIANS"), (0, u "RADIANS_TO_DEGREES")] 94

def k5m0 : Method := { name := "<init>", desc := "()V", sig := { parameters := [], returnType := none }, accessFlags := 2, code := none }
def k5c1 : Code := { maxStack := 2, maxLocals := 2, code := jdk_29_method_69_code, exceptionTable := #[], attributes := #[] }
def k5m1 : Method := { name := "min", desc := "(II)I", sig := { parameters := [.int, .int], returnType := some .int }, accessFlags := 9, code := some k5c1 }
/-- java/lang/Math -/
def k5 : Class := { plain "java/lang/Math" (some 0) with
  accessFlags := 49
  interfaces := #[]
  cf := some (fileOf pool5 1 #[.nestMembers #[98]] #[{ accessFlags := 2, nameIndex := 7, descriptorIndex := 8, attributes := #[] }, { accessFlags := 9, nameIndex := 201, descriptorIndex := 335, attributes := #[] }] 49 4 #[] #[{ accessFlags := 25, nameIndex := 354, descriptorIndex := 339, attributes := #[] }, { accessFlags := 25, nameIndex := 358, descriptorIndex := 339, attributes := #[] }, { accessFlags := 25, nameIndex := 361, descriptorIndex := 339, attributes := #[] }, { accessFlags := 26, nameIndex := 364, descriptorIndex := 339, attributes := #[] }, { accessFlags := 26, nameIndex := 365, descriptorIndex := 339, attributes := #[] }, { accessFlags := 26, nameIndex := 172, descriptorIndex := 173, attributes := #[] }, { accessFlags := 26, nameIndex := 176, descriptorIndex := 173, attributes := #[] }, { accessFlags := 8, nameIndex := 344, descriptorIndex := 339, attributes := #[] }, { accessFlags := 8, nameIndex := 338, descriptorIndex := 339, attributes := #[] }, { accessFlags := 4120, nameIndex := 245, descriptorIndex := 246, attributes := #[] }])
  fields := #[{ name := "E", type := .double, accessFlags := 25, slot := 0, constantValue := 0 }, { name := "PI", type := .double, accessFlags := 25, slot := 1, constantValue := 0 }, { name := "TAU", type := .double, accessFlags := 25, slot := 2, constantValue := 0 }, { name := "DEGREES_TO_RADIANS", type := .double, accessFlags := 26, slot := 3, constantValue := 0 }, { name := "RADIANS_TO_DEGREES", type := .double, accessFlags := 26, slot := 4, constantValue := 0 }, { name := "negativeZeroFloatBits", type := .long, accessFlags := 26, slot := 5, constantValue := 0 }, { name := "negativeZeroDoubleBits", type := .long, accessFlags := 26, slot := 6, constantValue := 0 }, { name := "twoToTheDoubleScaleUp", type := .double, accessFlags := 8, slot := 7, constantValue := 0 }, { name := "twoToTheDoubleScaleDown", type := .double, accessFlags := 8, slot := 8, constantValue := 0 }, { name := "$assertionsDisabled", type := .boolean, accessFlags := 4120, slot := 9, constantValue := 0 }]
  methods := #[k5m0, k5m1]
  instanceTypes := #[]
  staticTypes := #[.double, .double, .double, .double, .double, .long, .long, .double, .double, .boolean]
  resolved := Array.replicate 460 none
  statics := none }

def pool6 : Array CpInfo := pool [(2, .class_ 4), (1, u "java/lang/Object"), (0, u "<init>"), (0, u "()V"), (1, .class_ 10), (1, u "java/lang/System"), (0, u "allowSecurityManager"), (0, u "I"), (16, u "cons"), (0, u "Ljava/io/Console;"), (77, .class_ 110), (1, u "java/lang/System$CallersHolder"), (43, u "initialErrStream"), (0, u "Ljava/io/PrintStream;"), (19, u "security"), (0, u "Ljava/lang/SecurityManager;"), (31, .class_ 209), (0, u "java/lang/System$1"), (7, u "props"), (0, u "Ljava/util/Properties;"), (2, u "lineSeparator"), (0, u "Ljava/lang/String;"), (96, .class_ 321), (1, u "java/lang/System$LoggerFinder"), (5, .class_ 328), (0, u "java/lang/System$Logger"), (67, u "err"), (2, u "out"), (91, u "notSupportedJnuEncoding"), (15, u "in"), (17, u "initialIn"), (0, u "Ljava/io/InputStream;"), (35, u "bootLayer"), (0, u "Ljava/lang/ModuleLayer;"), (99, .class_ 664), (0, u "java/lang/System$2"), (9, u "NEVER"), (2, u "MAYBE"), (49, u "arraycopy"), (0, u "(Ljava/lang/Object;ILjava/lang/Object;II)V"), (72, .class_ 802), (0, u "java/lang/System$Logger$Level")] 31

def k6m0 : Method := { name := "<init>", desc := "()V", sig := { parameters := [], returnType := none }, accessFlags := 2, code := none }
def k6m1 : Method := { name := "arraycopy", desc := "(Ljava/lang/Object;ILjava/lang/Object;II)V", sig := { parameters := [(.object "java/lang/Object"), .int, (.object "java/lang/Object"), .int, .int], returnType := none }, accessFlags := 265, code := none }
/-- java/lang/System -/
def k6 : Class := { plain "java/lang/System" (some 0) with
  accessFlags := 49
  interfaces := #[]
  cf := some (fileOf pool6 8 #[.nestMembers #[319, 327, 801, 108, 663, 208]] #[{ accessFlags := 2, nameIndex := 5, descriptorIndex := 6, attributes := #[] }, { accessFlags := 265, nameIndex := 727, descriptorIndex := 728, attributes := #[] }] 49 2 #[] #[{ accessFlags := 25, nameIndex := 507, descriptorIndex := 526, attributes := #[] }, { accessFlags := 25, nameIndex := 399, descriptorIndex := 155, attributes := #[] }, { accessFlags := 25, nameIndex := 396, descriptorIndex := 155, attributes := #[] }, { accessFlags := 10, nameIndex := 525, descriptorIndex := 526, attributes := #[] }, { accessFlags := 26, nameIndex := 674, descriptorIndex := 12, attributes := #[] }, { accessFlags := 26, nameIndex := 677, descriptorIndex := 12, attributes := #[] }, { accessFlags := 10, nameIndex := 11, descriptorIndex := 12, attributes := #[] }, { accessFlags := 74, nameIndex := 175, descriptorIndex := 176, attributes := #[] }, { accessFlags := 10, nameIndex := 491, descriptorIndex := 222, attributes := #[] }, { accessFlags := 74, nameIndex := 29, descriptorIndex := 30, attributes := #[] }, { accessFlags := 74, nameIndex := 154, descriptorIndex := 155, attributes := #[] }, { accessFlags := 10, nameIndex := 217, descriptorIndex := 218, attributes := #[] }, { accessFlags := 10, nameIndex := 221, descriptorIndex := 222, attributes := #[] }, { accessFlags := 8, nameIndex := 562, descriptorIndex := 563, attributes := #[] }])
  fields := #[{ name := "in", type := (.object "java/io/InputStream"), accessFlags := 25, slot := 0, constantValue := 0 }, { name := "out", type := (.object "java/io/PrintStream"), accessFlags := 25, slot := 1, constantValue := 0 }, { name := "err", type := (.object "java/io/PrintStream"), accessFlags := 25, slot := 2, constantValue := 0 }, { name := "initialIn", type := (.object "java/io/InputStream"), accessFlags := 10, slot := 3, constantValue := 0 }, { name := "NEVER", type := .int, accessFlags := 26, slot := 4, constantValue := 0 }, { name := "MAYBE", type := .int, accessFlags := 26, slot := 5, constantValue := 0 }, { name := "allowSecurityManager", type := .int, accessFlags := 10, slot := 6, constantValue := 0 }, { name := "security", type := (.object "java/lang/SecurityManager"), accessFlags := 74, slot := 7, constantValue := 0 }, { name := "notSupportedJnuEncoding", type := (.object "java/lang/String"), accessFlags := 10, slot := 8, constantValue := 0 }, { name := "cons", type := (.object "java/io/Console"), accessFlags := 74, slot := 9, constantValue := 0 }, { name := "initialErrStream", type := (.object "java/io/PrintStream"), accessFlags := 74, slot := 10, constantValue := 0 }, { name := "props", type := (.object "java/util/Properties"), accessFlags := 10, slot := 11, constantValue := 0 }, { name := "lineSeparator", type := (.object "java/lang/String"), accessFlags := 10, slot := 12, constantValue := 0 }, { name := "bootLayer", type := (.object "java/lang/ModuleLayer"), accessFlags := 8, slot := 13, constantValue := 0 }]
  methods := #[k6m0, k6m1]
  instanceTypes := #[]
  staticTypes := #[(.object "java/io/InputStream"), (.object "java/io/PrintStream"), (.object "java/io/PrintStream"), (.object "java/io/InputStream"), .int, .int, .int, (.object "java/lang/SecurityManager"), (.object "java/lang/String"), (.object "java/io/Console"), (.object "java/io/PrintStream"), (.object "java/util/Properties"), (.object "java/lang/String"), (.object "java/lang/ModuleLayer")]
  resolved := Array.replicate 834 none
  statics := none }

def pool7 : Array CpInfo := pool [(1, u "java/io/Serializable"), (0, .class_ 1), (0, u "java/lang/Object"), (0, .class_ 3)] 3

/-- java/io/Serializable -/
def k7 : Class := { plain "java/io/Serializable" (some 0) with
  accessFlags := 1537
  interfaces := #[]
  cf := some (fileOf pool7 2 #[] #[] 1537 4 #[] #[])
  fields := #[]
  methods := #[]
  instanceTypes := #[]
  staticTypes := #[]
  resolved := Array.replicate 8 none
  statics := none }

/-- the primitive boolean -/
def k8 : Class := { plain "boolean" none with kind := .primitive 'Z', accessFlags := 0x411 }
/-- [Z -/
def k9 : Class := { plain "[Z" (some 0) with kind := .array 8 .boolean, interfaces := #[4, 7], accessFlags := 1041 }

/-- the primitive byte -/
def k10 : Class := { plain "byte" none with kind := .primitive 'B', accessFlags := 0x411 }
/-- [B -/
def k11 : Class := { plain "[B" (some 0) with kind := .array 10 .byte, interfaces := #[4, 7], accessFlags := 1041 }

/-- the primitive int -/
def k12 : Class := { plain "int" none with kind := .primitive 'I', accessFlags := 0x411 }
/-- [I -/
def k13 : Class := { plain "[I" (some 0) with kind := .array 12 .int, interfaces := #[4, 7], accessFlags := 1041 }

def heap : Heap := #[]
def classes : Array Class := #[k0, k1, k2, k3, k4, k5, k6, k7, k8, k9, k10, k11, k12, k13]
def interned : List (Array UInt16 × Addr) := []
def slotsUsed : Nat := 0
def theMethod : MethodId := ⟨1, 1⟩
def args0 : Array Value := #[.int 0, .int 1, .int 2, .int 3, .int 4]
def aboutOver (below : List Frame) : State where
  vm := { classes := classes, interned := interned.toArray }
  heap := heap
  slotsUsed := slotsUsed
  threads := #[{ frames := .invoking theMethod args0 :: below }]
def below0 : List Frame := [.native { method := ⟨0, 0⟩, args := #[] }]
def about1 : State := aboutOver below0
def p0 : Program := .bare "" "" ""
def e0 : Env := launch0.env 0 0 0
theorem w_frames : about1.frames = Frame.invoking theMethod args0 :: below0 := rfl
set_option maxRecDepth 65536 in
theorem w_args : argsFit about1.vm theMethod args0 = true := by decide +kernel
set_option maxRecDepth 65536 in
theorem w_heap : heapFits about1 = true := by decide +kernel
set_option maxRecDepth 65536 in
theorem w_runnable : about1.curStatus? = some .runnable := by decide +kernel
set_option maxRecDepth 65536 in
theorem w_alone : about1.alone = true := by decide +kernel
set_option maxRecDepth 65536 in
theorem w_named : about1.methodNamed? x = some theMethod := by decide +kernel
set_option maxRecDepth 65536 in
theorem w_hears : about1.hears theMethod below0 = true := by decide +kernel
set_option maxRecDepth 65536 in
theorem w_ripe : about1.ripe theMethod args0 below0 = true := by decide +kernel
theorem w_running : about1.status = .running := rfl
set_option maxRecDepth 65536 in
theorem w_room : about1.hasRoom e0.platform room_1 = true :=
  launch0.hasRoom_least _ room_1 (by decide +kernel) (by decide +kernel) (by decide +kernel) (by decide +kernel) (by decide +kernel) (by decide +kernel)
theorem allAtoms_all (ts : List Jvm.Cond) (a : Array Jvm.Value) (st : Jvm.State) : (allAtoms ts).before a st = ts.all (fun c => c.before a st) := by
  induction ts with
  | nil => rfl
  | cons c t ih =>
    show (Jvm.Cond.and c (allAtoms t)).before a st = _
    rw [Jvm.Cond.before_and, ih, List.all_cons]
def words1 : List Jvm.Cond := Jvm.Cond.code x code maxLocals ret :: tables_1
/-- a 'code' word, met by the world's own term for the bytes: nothing is compared byte by byte -/
theorem code_word {y : MethodName} {bytes : ByteArray} {mx : Nat} {rt : Option FieldType} {a : Array Value} {s : State} {m : MethodId} {meth : Method} {c : Code} (h1 : s.methodNamed? y = some m) (h2 : s.vm.method? m = some meth) (h3 : meth.code = some c) (h4 : c.code = bytes)
    (h5 : (c.maxLocals == mx && c.exceptionTable.isEmpty && decide (c.maxStack ≤ mostOperands) && decide (meth.sig.returnType = rt) && !meth.locks && decide (parseMethodDescriptor y.desc = some meth.sig)) = true) : (Jvm.Cond.code y bytes mx rt).before a s = true := by
  simp only [Bool.and_eq_true, beq_iff_eq, Bool.not_eq_true', decide_eq_true_eq] at h5
  obtain ⟨⟨⟨⟨⟨g1, g2⟩, g3⟩, g4⟩, g5⟩, g6⟩ := h5
  simp [Cond.before, Cond.holds, Cond.value, h1, h2, h3, h4, g1, g2, g3, g4, g5, g6]
def isCode : Jvm.Cond → Bool
  | .code _ _ _ _ => true
  | _ => false
theorem all_split {L : List Jvm.Cond} {P : Jvm.Cond → Bool} (h1 : L.all (fun c => isCode c || P c) = true) (h2 : ∀ c ∈ L.filter isCode, P c = true) : L.all P = true := by
  refine List.all_eq_true.mpr fun c hc => ?_
  have h := List.all_eq_true.mp h1 c hc
  rcases Bool.eq_false_or_eq_true (isCode c) with hi | hi
  · exact h2 c (List.mem_filter.mpr ⟨hc, hi⟩)
  · simpa [hi] using h
set_option maxRecDepth 65536 in
theorem w_c0 : (Jvm.Cond.code x code maxLocals ret).before args0 about1 = true := code_word (m := ⟨1, 1⟩) (meth := k1m1) (c := k1c1) (by decide +kernel) rfl rfl rfl (by decide +kernel)
set_option maxRecDepth 65536 in
theorem w_c1 : (Jvm.Cond.code ({ cls := "com/example/tempora/tempora/NotedPoints", name := "<init>", desc := "(I)V" } : Jvm.MethodName) prog_16_method_1_code (2 : Nat) (Option.none : Option Jvm.ClassFile.FieldType)).before args0 about1 = true := code_word (m := ⟨2, 0⟩) (meth := k2m0) (c := k2c0) (by decide +kernel) rfl rfl rfl (by decide +kernel)
set_option maxRecDepth 65536 in
theorem w_c2 : (Jvm.Cond.code ({ cls := "java/lang/Object", name := "<init>", desc := "()V" } : Jvm.MethodName) object_method_1_code (1 : Nat) (Option.none : Option Jvm.ClassFile.FieldType)).before args0 about1 = true := code_word (m := ⟨0, 0⟩) (meth := k0m0) (c := k0c0) (by decide +kernel) rfl rfl rfl (by decide +kernel)
set_option maxRecDepth 65536 in
theorem w_c3 : (Jvm.Cond.code ({ cls := "com/example/tempora/tempora/NotedPoints", name := "note", desc := "(I)V" } : Jvm.MethodName) prog_16_method_2_code (2 : Nat) (Option.none : Option Jvm.ClassFile.FieldType)).before args0 about1 = true := code_word (m := ⟨2, 1⟩) (meth := k2m1) (c := k2c1) (by decide +kernel) rfl rfl rfl (by decide +kernel)
set_option maxRecDepth 65536 in
theorem w_c4 : (Jvm.Cond.code ({ cls := "com/example/tempora/tempora/NotedPoints", name := "take", desc := "()[I" } : Jvm.MethodName) prog_16_method_3_code (2 : Nat) (Option.some (Jvm.ClassFile.FieldType.array Jvm.ClassFile.FieldType.int))).before args0 about1 = true := code_word (m := ⟨2, 2⟩) (meth := k2m2) (c := k2c2) (by decide +kernel) rfl rfl rfl (by decide +kernel)
set_option maxRecDepth 65536 in
theorem w_c5 : (Jvm.Cond.code ({ cls := "java/util/Arrays", name := "copyOf", desc := "([II)[I" } : Jvm.MethodName) jdk_65_method_123_code (3 : Nat) (Option.some (Jvm.ClassFile.FieldType.array Jvm.ClassFile.FieldType.int))).before args0 about1 = true := code_word (m := ⟨3, 1⟩) (meth := k3m1) (c := k3c1) (by decide +kernel) rfl rfl rfl (by decide +kernel)
set_option maxRecDepth 65536 in
theorem w_c6 : (Jvm.Cond.code ({ cls := "com/example/tempora/tempora/NotedPoints", name := "clear", desc := "()V" } : Jvm.MethodName) prog_16_method_4_code (2 : Nat) (Option.none : Option Jvm.ClassFile.FieldType)).before args0 about1 = true := code_word (m := ⟨2, 3⟩) (meth := k2m3) (c := k2c3) (by decide +kernel) rfl rfl rfl (by decide +kernel)
set_option maxRecDepth 65536 in
theorem w_c7 : (Jvm.Cond.code ({ cls := "com/example/tempora/tempora/NotedPointsNotePinLaw", name := "same", desc := "([IIIII)Z" } : Jvm.MethodName) method_3_code (5 : Nat) (Option.some Jvm.ClassFile.FieldType.boolean)).before args0 about1 = true := code_word (m := ⟨1, 2⟩) (meth := k1m2) (c := k1c2) (by decide +kernel) rfl rfl rfl (by decide +kernel)
set_option maxRecDepth 65536 in
theorem w_c8 : (Jvm.Cond.code ({ cls := "java/lang/Math", name := "min", desc := "(II)I" } : Jvm.MethodName) jdk_29_method_69_code (2 : Nat) (Option.some Jvm.ClassFile.FieldType.int)).before args0 about1 = true := code_word (m := ⟨5, 1⟩) (meth := k5m1) (c := k5c1) (by decide +kernel) rfl rfl rfl (by decide +kernel)
def codes1 : List Jvm.Cond := [Jvm.Cond.code x code maxLocals ret, Jvm.Cond.code ({ cls := "com/example/tempora/tempora/NotedPoints", name := "<init>", desc := "(I)V" } : Jvm.MethodName) prog_16_method_1_code (2 : Nat) (Option.none : Option Jvm.ClassFile.FieldType), Jvm.Cond.code ({ cls := "java/lang/Object", name := "<init>", desc := "()V" } : Jvm.MethodName) object_method_1_code (1 : Nat) (Option.none : Option Jvm.ClassFile.FieldType), Jvm.Cond.code ({ cls := "com/example/tempora/tempora/NotedPoints", name := "note", desc := "(I)V" } : Jvm.MethodName) prog_16_method_2_code (2 : Nat) (Option.none : Option Jvm.ClassFile.FieldType), Jvm.Cond.code ({ cls := "com/example/tempora/tempora/NotedPoints", name := "take", desc := "()[I" } : Jvm.MethodName) prog_16_method_3_code (2 : Nat) (Option.some (Jvm.ClassFile.FieldType.array Jvm.ClassFile.FieldType.int)), Jvm.Cond.code ({ cls := "java/util/Arrays", name := "copyOf", desc := "([II)[I" } : Jvm.MethodName) jdk_65_method_123_code (3 : Nat) (Option.some (Jvm.ClassFile.FieldType.array Jvm.ClassFile.FieldType.int)), Jvm.Cond.code ({ cls := "com/example/tempora/tempora/NotedPoints", name := "clear", desc := "()V" } : Jvm.MethodName) prog_16_method_4_code (2 : Nat) (Option.none : Option Jvm.ClassFile.FieldType), Jvm.Cond.code ({ cls := "com/example/tempora/tempora/NotedPointsNotePinLaw", name := "same", desc := "([IIIII)Z" } : Jvm.MethodName) method_3_code (5 : Nat) (Option.some Jvm.ClassFile.FieldType.boolean), Jvm.Cond.code ({ cls := "java/lang/Math", name := "min", desc := "(II)I" } : Jvm.MethodName) jdk_29_method_69_code (2 : Nat) (Option.some Jvm.ClassFile.FieldType.int)]
set_option maxRecDepth 65536 in
theorem codes_eq : words1.filter isCode = codes1 := rfl
theorem w_codes : ∀ c ∈ words1.filter isCode, c.before args0 about1 = true := by
  rw [codes_eq]
  intro c hc
  simp only [codes1, List.mem_cons, List.not_mem_nil, or_false] at hc
  rcases hc with rfl | rfl | rfl | rfl | rfl | rfl | rfl | rfl | rfl
  · exact w_c0
  · exact w_c1
  · exact w_c2
  · exact w_c3
  · exact w_c4
  · exact w_c5
  · exact w_c6
  · exact w_c7
  · exact w_c8
set_option maxRecDepth 65536 in
theorem w_t1 : (words1.take 24).all (fun c => isCode c || c.before args0 about1) = true := by decide +kernel
set_option maxRecDepth 65536 in
theorem w_t2 : ((words1.drop 24).take 24).all (fun c => isCode c || c.before args0 about1) = true := by decide +kernel
set_option maxRecDepth 65536 in
theorem w_t3 : ((words1.drop 24).drop 24).all (fun c => isCode c || c.before args0 about1) = true := by decide +kernel
theorem w_tables : (allAtoms (Jvm.Cond.code x code maxLocals ret :: tables_1)).before args0 about1 = true := by
  rw [allAtoms_all]
  show words1.all (fun c => c.before args0 about1) = true
  refine all_split ?_ w_codes
  rw [← List.take_append_drop 24 words1, List.all_append, w_t1, ← List.take_append_drop 24 (words1.drop 24), List.all_append, w_t2, w_t3]
  rfl
set_option maxRecDepth 65536 in
theorem w_case : (Jvm.Cond.and given_1 narrow_1).before args0 about1 = true := by decide +kernel
theorem w_applies : (headSpec (Jvm.Cond.code x code maxLocals ret :: tables_1) room_1).applies x e0.platform about1 = true :=
  (Spec.applies_iff w_frames).mpr ⟨w_running, w_runnable, w_alone, w_named, w_hears, w_ripe, w_room, w_tables⟩
theorem atStart : AtStart classFile x code maxLocals ret World_1 tables_1 room_1 Calls_1 rest_1 Pre_1 launch0 p0 e0 about1 theMethod args0 below0 :=
  ⟨lists_1, trivial, launch0.admits_env _ _ _, launch0.least_env, fairChoices_fair.cas, fairChoices_fair.clock, w_frames, w_args, w_heap, w_applies, trivial, trivial, w_case⟩
end start1
theorem witness_1 : WitnessClaimed_1 := ⟨start1.p0, start1.e0, start1.about1, start1.theMethod, start1.args0, start1.below0, start1.atStart⟩
end Jvm.Pilot.@@N@@
