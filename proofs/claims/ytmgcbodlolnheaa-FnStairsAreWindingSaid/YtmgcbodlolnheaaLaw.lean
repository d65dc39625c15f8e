/-
  The last step of every law's row: the call returned true and turned nothing that was there.
-/
import Derived.Test.YtmgcbodlolnheaaBase
namespace Go.Proofs.Ytmgcbodlolnheaa
open Go.ChangeShapes Go.WideShapes Go.ChangeAt Go.RowKit

theorem laidOut : laidOutB Try.prog = true := by kernel_rfl

section
variable {H : Type} {enc : TypeId × Value → H} {W W' : World}
theorem trodAll_below (hb : Below W.heap.size W W') : ∀ {ts : List TypeId} {vs : List Value} {ds : List (DataW H)} {ps : List MemPlace},
    (∀ t ∈ ts, Try.prog.readableRec t = true ∧ t < Try.prog.types.size) → DataW.TrodAll enc Try.prog W 0 (fun _ => true) true ts vs ds ps →
    DataW.TrodAll enc Try.prog W' 0 (fun b => decide (b < W.heap.size)) true ts vs ds ps
  | [], _, _, _, _, h => by
    obtain ⟨rfl, rfl, rfl⟩ := trodAll_nil h
    exact trodAll_mk0
  | t :: ts, _, _, _, ht, h => by
    have hlt := DataW.TrodAll.lt h
    obtain ⟨v, vs1, d, ds1, a, b, rfl, rfl, rfl, h1, h2⟩ := trodAll_cons h
    obtain ⟨hr, hs⟩ := ht t (by simp)
    exact trodAll_cons_mk (Below.trod laidOut hr hs h1 hb fun x hx => hlt x (by simp [hx])) (trodAll_below hb (fun t' h' => ht t' (by simp [h'])) h2)

theorem law_post {f : Func} {s : ChangeSpec} {args : Array Value} {ds gs : List (DataW H)} {before : List MemPlace}
    (hts : ∀ t ∈ f.params.toList, Try.prog.readableRec t = true ∧ t < Try.prog.types.size) (hr : f.resultTypes = #[4]) (hv : s.vars = [])
    (hfn : s.fn H ds = { results := [.lit (.bool true)], args := ds })
    (hW : DataW.Whole enc Try.prog f.params.toList s.vars false W args.toList ds gs before) (hb : Below W.heap.size W W') :
    s.post enc Try.prog f false true false false W args (.bool true) W' := by
  have hW' := hW
  obtain ⟨p, q, hA, hV, rfl, hfz, hnd⟩ := hW
  rw [hv] at hV
  obtain ⟨rfl, rfl⟩ := trodVars_none hV
  refine ⟨ds, [], p ++ [], [], p, [], hW', ?_, ?_, ?_, hb.frame _, fun h => by cases h⟩
  · rw [List.append_nil, hfn, hr]
    exact trodAll_mk1 (shut_bool Try.underlying4 _)
  · rw [List.append_nil, hfn]
    exact trodAll_below hb hts hA
  · rw [List.append_nil, hfn, hv]
    rfl
end
#print axioms law_post
end Go.Proofs.Ytmgcbodlolnheaa
