/-
  zzWalk OVER AN ITERATOR THAT Iterate HANDED OUT.
-/
import Derived.Test.YoefzwWalkIt
import Derived.Test.YoefzwPlain
namespace Go.Proofs.Yoefzw
open Go.RowKit Go.Maps Go.WideMaps

/-- zzWalk over an iterator that Iterate handed out: true, wherever the map holds at each key of 'keys' the Int that stands in 'want' at the key's last place. -/
theorem walk_it (it bm N : Nat) (F : List UInt8 → Option Int) (ak aw : Option Addr) (n ck cw : Nat) (ks : Nat → ByteArray) (vs : Nat → Int) (ss : List (List UInt8)) (w : World)
    (hn : n ≤ 1024) (hk : RowIs w it ak n (fun k => .string (ks k))) (hv : RowIs w it aw n (fun k => .int .i64 (vs k))) (hI : IterAt w it bm 0 ss) (hF : MapOf w bm N F)
    (hnd : ss.Nodup) (hm : ∀ x, x ∈ ss ↔ ∃ k, k < n ∧ (ks k).data.toList = x) (hlen : ss.length ≤ 1024) (hval : ∀ (s : ByteArray) (j : Nat), lastIdx ks s n = j → F s.data.toList = some (vs j)) (hs : ∀ k, k < n → (ks k).size ≤ maxLen) :
    Calls Efzg.prog 25 #[.iface 79 (.pointer (some ⟨it, 0, none⟩)), .slice ak n ck, .slice aw n cw] w fun e w' => e = .returned (.bool true) ∧ Below it w w' := by
  obtain ⟨a, c, h0, h1, h2, h3, h4, h5⟩ := hI
  exact walk25 it bm N F ak aw a n ck cw ss.length c ks (fun k => keyV (ss.getD k [])) vs (place ks n ss) w hn hlen hk hv ⟨h0, h1, h2, h3, h4⟩ h5 hF (distinct_len ks n ss hnd hm)
    (fun i hi => (place_spec hm hi).1) (place_inj hnd hm) (fun i hi => hval _ _ (place_spec hm hi).1) (fun i hi => by rw [← (place_spec hm hi).2.2]; exact hs _ (place_spec hm hi).2.1)

end Go.Proofs.Yoefzw
